import JvmDerived
import JvmDerived.Pilot.@@N@@Statement
import JvmDerived.Pilot.@@N@@Code
set_option linter.unusedVariables false
set_option linter.unusedSimpArgs false
namespace Jvm.RoadKit
open Sem ClassFile Op Lib Jvm.Stand Jvm.Free Jvm.LawKit
section New
variable {p : Program} {l : Launch} {e : Env} {R : Room} {s : State} {m : MethodId} {args : Array Value} {below : List Frame} {meth : Method} {c : Code} {T : State} {locs : List Loc} {cells slots : Nat}
theorem retI (X : Stand p l e R s m args below meth c T locs cells slots) (hx : p.tables.exec = Jvm.exec) {pc : Nat} {Ls : Array Slot} {z : Int32} {rest : List Value} (hret : meth.sig.returnType = some .int) (hd : decode c.code pc = .ok (.ireturn, 1)) {fs : List Frame}
    (hl : ∀ (f : JFrame) (acts : List Action), f.method = m → f.locked = none → f.entered = [] → (doReturn e (T.setTop f) acts (some (.int z))).1 = T.setFrames fs) : Steps p.tables e below (T.setTop (mkF m pc Ls (.int z :: rest))) (T.setFrames fs) := by
  have hm' : T.vm.method? m = some meth := X.method'
  have hn : narrow .int (.int z) = .int z := rfl
  show Steps p.tables e below (T.setTop { method := m, pc := pc, locals := Ls, stack := _ :: rest, locked := none }) _
  jvm_step X.here [X.here.top, hx, hd, hm', hret, hn]
  first | (intro acts; rw [hl _ acts rfl rfl rfl]) | rw [hl _ _ rfl rfl rfl]
  exact Steps.refl _
end New
end Jvm.RoadKit

/- laws to paste: Road.backV, Road.eqW, Road.codOf (cut by pick.py; bodies as the Statement names them) -/
namespace Jvm.Pilot.@@N@@
namespace StrChars
open Jvm Sem ClassFile Op Lib Jvm.Stand Jvm.Free.XT Jvm.Free.ALB Jvm.Free.JM Jvm.Free
open Jvm.Lib.Cold (StaticIs)
/-- a char array whose places are chars -/
def Ch (a : Addr) (A : Cell) (U : State) : Prop := Arr .char a A U ∧ Typed .char A
theorem Ch.mv {a : Addr} {A : Cell} {U U' : State} (h : Ch a A U) (hal : U.vm.Alike U'.vm) (hh : U'.heap = U.heap) : Ch a A U' := ⟨h.1.mv hal hh, h.2⟩
theorem Ch.keep {a : Addr} {A : Cell} {U U' : State} (h : Ch a A U) (hal : U.vm.Alike U'.vm) (hk : U'.heap[a]? = some A) : Ch a A U' := ⟨h.1.keep hal hk, h.2⟩
/-- what place i of a char[]'s cell holds -/
def cv (A : Cell) (i : Nat) : Int32 := match A.slots[i]? with | some (.int x) => x | _ => 0
theorem Ch.get {a : Addr} {A : Cell} {U : State} (h : Ch a A U) {i : Nat} (hi : i < A.slots.size) : A.slots[i]? = some (.int (cv A i)) := by
  have e := Array.getElem?_eq_getElem hi
  have f := h.2 i _ e
  unfold cv; rw [e]
  generalize A.slots[i] = v at f
  cases v <;> simp [fits] at f ⊢
/-- the byte that i2b leaves of a char -/
def lo8 (x : Int32) : Int32 := x.toInt8.toInt32
theorem fits_lo8 (y : Int32) : fits .byte (.int (lo8 y)) = true := by
  have h1 := y.toInt8.le_toInt
  have h2 := y.toInt8.toInt_lt
  simp only [lo8, fits, Bool.and_eq_true, decide_eq_true_eq, Int32.le_iff_toInt_le, Int8.toInt_toInt32, show (-128 : Int32).toInt = -128 from by decide, show (127 : Int32).toInt = 127 from by decide]
  omega
/-- A' is A but that each place j of lo .. hi - 1 holds f j -/
def Laid (A A' : Cell) (lo hi : Nat) (f : Nat → Value) : Prop := A'.cls = A.cls ∧ A'.vm = A.vm ∧ A'.slots.size = A.slots.size ∧ ∀ i, A'.slots[i]? = if lo ≤ i ∧ i < hi then some (f i) else A.slots[i]?
theorem Laid.zero (A : Cell) (lo : Nat) (f : Nat → Value) : Laid A A lo (lo + 0) f := ⟨rfl, rfl, rfl, fun i => by rw [if_neg (by omega)]⟩
theorem Laid.step {A Ak : Cell} {lo k : Nat} {f : Nat → Value} {v : Value} (h : Laid A Ak lo k f) (hlo : lo ≤ k) (hk : k < Ak.slots.size) (hv : v = f k) : Laid A (Ak.setSlot k v) lo (k + 1) f := by
  refine ⟨h.1, h.2.1, by simpa [Cell.setSlot] using h.2.2.1, fun i => ?_⟩
  by_cases e : k = i
  · subst e; rw [Cell.slots_setSlot_self v hk, if_pos (by omega), hv]
  · rw [Cell.slots_setSlot_ne v e, h.2.2.2 i]
    by_cases q : lo ≤ i ∧ i < k
    · rw [if_pos q, if_pos (by omega)]
    · rw [if_neg q, if_neg (by omega)]
def U16 : String := "java/lang/StringUTF16"
namespace Cmp5
def yN : MethodName := ⟨"java/lang/StringUTF16", "compress", "([CI[BII)I"⟩
abbrev yB : ByteArray := jdk_52_method_21_code
theorem d0 : decode yB 0 = .ok (.iconst 0, 1) := by decide +kernel
theorem d1 : decode yB 1 = .ok (.istore 5, 2) := by decide +kernel
theorem d3 : decode yB 3 = .ok (.iload 5, 2) := by decide +kernel
theorem d5 : decode yB 5 = .ok (.iload 4, 2) := by decide +kernel
theorem d7 : decode yB 7 = .ok (.if_icmp (.ge) 37, 3) := by decide +kernel
theorem d10 : decode yB 10 = .ok (.aload_n 0, 1) := by decide +kernel
theorem d11 : decode yB 11 = .ok (.iload_n 1, 1) := by decide +kernel
theorem d12 : decode yB 12 = .ok (.caload, 1) := by decide +kernel
theorem d13 : decode yB 13 = .ok (.istore 6, 2) := by decide +kernel
theorem d15 : decode yB 15 = .ok (.iload 6, 2) := by decide +kernel
theorem d17 : decode yB 17 = .ok (.sipush 255, 3) := by decide +kernel
theorem d20 : decode yB 20 = .ok (.if_icmp (.le) 6, 3) := by decide +kernel
theorem d26 : decode yB 26 = .ok (.aload_n 2, 1) := by decide +kernel
theorem d27 : decode yB 27 = .ok (.iload_n 3, 1) := by decide +kernel
theorem d28 : decode yB 28 = .ok (.iload 6, 2) := by decide +kernel
theorem d30 : decode yB 30 = .ok (.i2b, 1) := by decide +kernel
theorem d31 : decode yB 31 = .ok (.bastore, 1) := by decide +kernel
theorem d32 : decode yB 32 = .ok (.iinc 1 1, 3) := by decide +kernel
theorem d35 : decode yB 35 = .ok (.iinc 3 1, 3) := by decide +kernel
theorem d38 : decode yB 38 = .ok (.iinc 5 1, 3) := by decide +kernel
theorem d41 : decode yB 41 = .ok (.goto (-38), 3) := by decide +kernel
theorem d44 : decode yB 44 = .ok (.iload 4, 2) := by decide +kernel
theorem d46 : decode yB 46 = .ok (.ireturn, 1) := by decide +kernel
def site : List Cond := []
def tab : Cond := tabOf yN yB 7 (some .int) site
def P (b : Addr) (A : Cell) (d : Addr) (B : Cell) (o q len : Nat) (args : Array Value) (s : State) : Prop := args = #[.ref b, .int (Int32.ofNat o), .ref d, .int (Int32.ofNat q), .int (Int32.ofNat len)] ∧ Ch b A s ∧ Arr .byte d B s ∧ b ≠ d ∧ o + len ≤ A.slots.size ∧ q + len ≤ B.slots.size ∧ ∀ i, i < len → ¬ 255 < cv A (o + i)
def E (b : Addr) (A : Cell) (d : Addr) (B : Cell) (o q len : Nat) (r : Option Value) (s u : State) : Prop := r = some (.int (Int32.ofNat len)) ∧ ∃ B', Put d B' s u ∧ Laid B B' q (q + len) (fun j => Value.int (lo8 (cv A (o + (j - q)))))
/-- no char of the range above 255: len; the places written hold each char's low byte -/
theorem law (l : Launch) (b : Addr) (A : Cell) (d : Addr) (B : Cell) (o q len : Nat) : Law l yN 5 5 0 0 yB 7 (some .int) site (P b A d B o q len) (E b A d B o q len) (copyLocs d q len) 0 0 := by
  refine Law.of_walk (plainFor_of_name (by decide +kernel)) (by decide +kernel) (by decide +kernel) (by decide) (fun _ _ h => by rw [h.1]; rfl) (fun _ U U' hal hh h => ⟨h.1, h.2.1.mv hal hh, h.2.2.1.mv hal hh, h.2.2.2⟩) (fun r U U' V V' h1 hal h2 h => ⟨h.1, h.2.elim fun B' q => ⟨B', q.1.mv h1 h2, q.2⟩⟩) ?_
  intro p e s m args below meth c s₁ X0 hexec hbytes hml hret hlk hnm hown hh0 W hP
  obtain ⟨rfl, hA, hB, hne, l1, l2, hp⟩ := hP
  have c1 : Steps p.tables e below (s₁.setTop (entryFrame m #[.ref b, .int (Int32.ofNat o), .ref d, .int (Int32.ofNat q), .int (Int32.ofNat len)] 7)) (s₁.setTop (mkF m 0 #[.val (.ref b), .val (.int (Int32.ofNat o)), .val (.ref d), .val (.int (Int32.ofNat q)), .val (.int (Int32.ofNat len)), .unset, .unset] [])) := entry rfl
  have hA0 := hA.1.mv X0.warmed.alike hh0
  have hB0 := hB.mv X0.warmed.alike hh0
  have a31 := hA.1.2.2.2
  have c2 : Steps p.tables e below (s₁.setTop (entryFrame m #[.ref b, .int (Int32.ofNat o), .ref d, .int (Int32.ofNat q), .int (Int32.ofNat len)] 7)) (s₁.setTop (mkF m 3 #[.val (.ref b), .val (.int (Int32.ofNat o)), .val (.ref d), .val (.int (Int32.ofNat q)), .val (.int (Int32.ofNat len)), .val (.int 0), .unset] [])) := c1.trans (by
    refine iconstV X0.here hexec rfl 0 (hb hbytes d0) (by decide) ?_
    refine XS.istore X0.here hexec rfl (hb hbytes d1) rfl rfl ?_
    exact Steps.refl _)
  have loop : ∀ (r i : Nat), i + r = len → ∀ (z : Slot), (z = .unset ∨ ∃ w, z = .val w ∧ w.category = 1) → ∀ (Tl : State) (Bk : Cell), Stand p l e { frames := 0, locals := 0, cells := 0, slots := 0 } s m #[.ref b, .int (Int32.ofNat o), .ref d, .int (Int32.ofNat q), .int (Int32.ofNat len)] below meth c Tl ([] ++ copyLocs d q i) 0 0 → Put d Bk s₁ Tl → Laid B Bk q (q + i) (fun j => Value.int (lo8 (cv A (o + (j - q))))) →
      Steps p.tables e below (s₁.setTop (entryFrame m #[.ref b, .int (Int32.ofNat o), .ref d, .int (Int32.ofNat q), .int (Int32.ofNat len)] 7)) (Tl.setTop (mkF m 3 #[.val (.ref b), .val (.int (Int32.ofNat (o + i))), .val (.ref d), .val (.int (Int32.ofNat (q + i))), .val (.int (Int32.ofNat len)), .val (.int (Int32.ofNat i)), z] [])) → ∃ (T' : State) (B' : Cell) (z' : Slot), Stand p l e { frames := 0, locals := 0, cells := 0, slots := 0 } s m #[.ref b, .int (Int32.ofNat o), .ref d, .int (Int32.ofNat q), .int (Int32.ofNat len)] below meth c T' ([] ++ copyLocs d q len) 0 0 ∧ Put d B' s₁ T' ∧ Laid B B' q (q + len) (fun j => Value.int (lo8 (cv A (o + (j - q))))) ∧
      Steps p.tables e below (s₁.setTop (entryFrame m #[.ref b, .int (Int32.ofNat o), .ref d, .int (Int32.ofNat q), .int (Int32.ofNat len)] 7)) (T'.setTop (mkF m 3 #[.val (.ref b), .val (.int (Int32.ofNat (o + len))), .val (.ref d), .val (.int (Int32.ofNat (q + len))), .val (.int (Int32.ofNat len)), .val (.int (Int32.ofNat len)), z'] [])) := by
    intro r
    induction r with
    | zero =>
      intro i hi z hz Tl Bk Xl pl fl cl
      have hil : i = len := by omega
      rw [hil] at Xl fl cl
      exact ⟨Tl, Bk, z, Xl, pl, fl, cl⟩
    | succ r ih =>
      intro i hi z hz Tl Bk Xl pl fl cl
      have all := X0.warmed.alike.symm.trans Xl.warmed.alike
      have hAl := hA0.keep all (pl.other hne hA0.1)
      have hBk := hB0.like all pl.1 fl.1 fl.2.1 fl.2.2.1
      have hlt : q + i < Bk.slots.size := by rw [fl.2.2.1]; omega
      have c3 : Steps p.tables e below (s₁.setTop (entryFrame m #[.ref b, .int (Int32.ofNat o), .ref d, .int (Int32.ofNat q), .int (Int32.ofNat len)] 7)) (Tl.setTop (mkF m 12 #[.val (.ref b), .val (.int (Int32.ofNat (o + i))), .val (.ref d), .val (.int (Int32.ofNat (q + i))), .val (.int (Int32.ofNat len)), .val (.int (Int32.ofNat i)), z] [.int (Int32.ofNat (o + i)), .ref b])) := cl.trans (by
        refine XS.iload Xl.here hexec rfl (hb hbytes d3) rfl ?_
        refine XS.iload Xl.here hexec rfl (hb hbytes d5) rfl ?_
        refine XS.icmpNo Xl.here hexec rfl (hb hbytes d7) rfl (ii_ge_f (lt32 (by omega) (by omega))) ?_
        refine XS.aloadN Xl.here hexec rfl (hb hbytes d10) rfl rfl ?_
        refine XS.iloadN Xl.here hexec rfl (hb hbytes d11) rfl ?_
        exact Steps.refl _)
      have c4 : Steps p.tables e below (s₁.setTop (entryFrame m #[.ref b, .int (Int32.ofNat o), .ref d, .int (Int32.ofNat q), .int (Int32.ofNat len)] 7)) (Tl.setTop (mkF m 13 #[.val (.ref b), .val (.int (Int32.ofNat (o + i))), .val (.ref d), .val (.int (Int32.ofNat (q + i))), .val (.int (Int32.ofNat len)), .val (.int (Int32.ofNat i)), z] [.int (cv A (o + i))])) := c3.trans (by
        refine Xl.aget hexec hAl rfl (hA.get (i := o + i) (by omega)) rfl rfl (hb hbytes d12) ?_
        exact Steps.refl _)
      have c5 : Steps p.tables e below (s₁.setTop (entryFrame m #[.ref b, .int (Int32.ofNat o), .ref d, .int (Int32.ofNat q), .int (Int32.ofNat len)] 7)) (Tl.setTop (mkF m 15 #[.val (.ref b), .val (.int (Int32.ofNat (o + i))), .val (.ref d), .val (.int (Int32.ofNat (q + i))), .val (.int (Int32.ofNat len)), .val (.int (Int32.ofNat i)), .val (.int (cv A (o + i)))] [])) := c4.trans (by
        refine XS.istoreS Xl.here hexec rfl (hb hbytes d13) rfl rfl hz ?_
        exact Steps.refl _)
      have c6 : Steps p.tables e below (s₁.setTop (entryFrame m #[.ref b, .int (Int32.ofNat o), .ref d, .int (Int32.ofNat q), .int (Int32.ofNat len)] 7)) (Tl.setTop (mkF m 31 #[.val (.ref b), .val (.int (Int32.ofNat (o + i))), .val (.ref d), .val (.int (Int32.ofNat (q + i))), .val (.int (Int32.ofNat len)), .val (.int (Int32.ofNat i)), .val (.int (cv A (o + i)))] [.int (lo8 (cv A (o + i))), .int (Int32.ofNat (q + i)), .ref d])) := c5.trans (by
        refine XS.iload Xl.here hexec rfl (hb hbytes d15) rfl ?_
        refine sipushV Xl.here hexec rfl 255 (hb hbytes d17) (by decide) ?_
        refine XS.icmpYes Xl.here hexec rfl (pc0 := 20) rfl (hb hbytes d20) rfl (ii_le_t (hp i (by omega))) (by decide) rfl ?_
        refine XS.aloadN Xl.here hexec rfl (hb hbytes d26) rfl rfl ?_
        refine XS.iloadN Xl.here hexec rfl (hb hbytes d27) rfl ?_
        refine XS.iload Xl.here hexec rfl (hb hbytes d28) rfl ?_
        refine i2b Xl.here hexec rfl (hb hbytes d30) rfl ?_
        exact Steps.refl _)
      obtain ⟨T7, X7, p7, st7⟩ := Xl.aput hexec hBk rfl hlt rfl (fits_lo8 (cv A (o + i))) (g := (mkF m 31 #[.val (.ref b), .val (.int (Int32.ofNat (o + i))), .val (.ref d), .val (.int (Int32.ofNat (q + i))), .val (.int (Int32.ofNat len)), .val (.int (Int32.ofNat i)), .val (.int (cv A (o + i)))] [.int (lo8 (cv A (o + i))), .int (Int32.ofNat (q + i)), .ref d])) rfl (rest := []) rfl (hb hbytes d31)
      have c8 : Steps p.tables e below (s₁.setTop (entryFrame m #[.ref b, .int (Int32.ofNat o), .ref d, .int (Int32.ofNat q), .int (Int32.ofNat len)] 7)) (T7.setTop (mkF m 32 #[.val (.ref b), .val (.int (Int32.ofNat (o + i))), .val (.ref d), .val (.int (Int32.ofNat (q + i))), .val (.int (Int32.ofNat len)), .val (.int (Int32.ofNat i)), .val (.int (cv A (o + i)))] [])) := c6.trans (st7 _ (Steps.refl _))
      have c9 : Steps p.tables e below (s₁.setTop (entryFrame m #[.ref b, .int (Int32.ofNat o), .ref d, .int (Int32.ofNat q), .int (Int32.ofNat len)] 7)) (T7.setTop (mkF m 3 #[.val (.ref b), .val (.int (Int32.ofNat (o + i) + 1)), .val (.ref d), .val (.int (Int32.ofNat (q + i) + 1)), .val (.int (Int32.ofNat len)), .val (.int (Int32.ofNat i + 1)), .val (.int (cv A (o + i)))] [])) := c8.trans (by
        refine iincV X7.here hexec rfl 1 (hb hbytes d32) (by decide) rfl rfl ?_
        refine iincV X7.here hexec rfl 1 (hb hbytes d35) (by decide) rfl rfl ?_
        refine iincV X7.here hexec rfl 1 (hb hbytes d38) (by decide) rfl rfl ?_
        refine XS.goto X7.here hexec rfl (pc0 := 41) rfl (hb hbytes d41) (by decide) rfl ?_
        exact Steps.refl _)
      have c10 : Steps p.tables e below (s₁.setTop (entryFrame m #[.ref b, .int (Int32.ofNat o), .ref d, .int (Int32.ofNat q), .int (Int32.ofNat len)] 7)) (T7.setTop (mkF m 3 #[.val (.ref b), .val (.int (Int32.ofNat (o + (i + 1)))), .val (.ref d), .val (.int (Int32.ofNat (q + (i + 1)))), .val (.int (Int32.ofNat len)), .val (.int (Int32.ofNat (i + 1))), .val (.int (cv A (o + i)))] [])) := by
        have := c9
        rw [succ32, succ32, succ32] at this
        exact this
      exact ih (i + 1) (by omega) _ (Or.inr ⟨_, rfl, rfl⟩) T7 _ (by rw [copyLocs_step, ← List.append_assoc]; exact X7) (pl.trans p7) (fl.step (by omega) hlt (by simp)) c10
  obtain ⟨T9, B9, z9, X9, p9, f9, g9⟩ := loop len 0 (by omega) .unset (Or.inl rfl) s₁ B (by simpa [copyLocs] using X0) ⟨hB0.1, fun _ _ => rfl, rfl⟩ (Laid.zero _ _ _) c2
  have c11 : Steps p.tables e below (s₁.setTop (entryFrame m #[.ref b, .int (Int32.ofNat o), .ref d, .int (Int32.ofNat q), .int (Int32.ofNat len)] 7)) (T9.setTop (mkF m 46 #[.val (.ref b), .val (.int (Int32.ofNat (o + len))), .val (.ref d), .val (.int (Int32.ofNat (q + len))), .val (.int (Int32.ofNat len)), .val (.int (Int32.ofNat len)), z9] [.int (Int32.ofNat len)])) := g9.trans (by
    refine XS.iload X9.here hexec rfl (hb hbytes d3) rfl ?_
    refine XS.iload X9.here hexec rfl (hb hbytes d5) rfl ?_
    refine XS.icmpYes X9.here hexec rfl (pc0 := 7) rfl (hb hbytes d7) rfl (ii_ge_t (nlt32 (by omega) (Nat.le_refl _))) (by decide) rfl ?_
    refine XS.iload X9.here hexec rfl (hb hbytes d44) rfl ?_
    exact Steps.refl _)
  exact ⟨T9, some (.int (Int32.ofNat len)), _, _, _, X9, by simp, rfl, rfl, (fun h => by cases h), ⟨rfl, B9, p9.from hh0, f9⟩, fun fs hl => c11.trans (X9.ireturnOut hexec hret rfl (Or.inl rfl) (hb hbytes d46) hl)⟩
end Cmp5
namespace Cmp3
def yN : MethodName := ⟨"java/lang/StringUTF16", "compress", "([CII)[B"⟩
abbrev yB : ByteArray := jdk_52_method_16_code
theorem d0 : decode yB 0 = .ok (.iload_n 2, 1) := by decide +kernel
theorem d1 : decode yB 1 = .ok (.newarray .byte, 2) := by decide +kernel
theorem d3 : decode yB 3 = .ok (.astore_n 3, 1) := by decide +kernel
theorem d4 : decode yB 4 = .ok (.aload_n 0, 1) := by decide +kernel
theorem d5 : decode yB 5 = .ok (.iload_n 1, 1) := by decide +kernel
theorem d6 : decode yB 6 = .ok (.aload_n 3, 1) := by decide +kernel
theorem d7 : decode yB 7 = .ok (.iconst 0, 1) := by decide +kernel
theorem d8 : decode yB 8 = .ok (.iload_n 2, 1) := by decide +kernel
theorem d9 : decode yB 9 = .ok (.invokestatic 115, 3) := by decide +kernel
theorem d12 : decode yB 12 = .ok (.istore 4, 2) := by decide +kernel
theorem d14 : decode yB 14 = .ok (.iload 4, 2) := by decide +kernel
theorem d16 : decode yB 16 = .ok (.iload_n 2, 1) := by decide +kernel
theorem d17 : decode yB 17 = .ok (.if_icmp (.eq) 40, 3) := by decide +kernel
theorem d57 : decode yB 57 = .ok (.aload_n 3, 1) := by decide +kernel
theorem d58 : decode yB 58 = .ok (.areturn, 1) := by decide +kernel
def site : List Cond := [.arrayClass .byte, Cmp5.tab] ++ staticW U16 115 Cmp5.yN
def tab : Cond := tabOf yN yB 6 (some (.array .byte)) site
def P (b : Addr) (A : Cell) (o len : Nat) (args : Array Value) (s : State) : Prop := args = #[.ref b, .int (Int32.ofNat o), .int (Int32.ofNat len)] ∧ Ch b A s ∧ o + len ≤ A.slots.size ∧ len ≤ 536870912 ∧ ∀ i, i < len → ¬ 255 < cv A (o + i)
def E (b : Addr) (A : Cell) (o len : Nat) (r : Option Value) (s u : State) : Prop := NewArr .byte "[B" len (fun j => .int (lo8 (cv A (o + j)))) r s u ∧ u.heap.size = s.heap.size + 1
/-- no char of the range above 255: a new byte[] of their low bytes -/
theorem law (l : Launch) (b : Addr) (A : Cell) (o len : Nat) : Law l yN 3 3 1 18 yB 6 (some (.array .byte)) site (P b A o len) (E b A o len) [] 1 len := by
  refine Law.of_walk (plainFor_of_name (by decide +kernel)) (by decide +kernel) (by decide +kernel) (by decide) (fun _ _ h => by rw [h.1]; rfl) (fun _ U U' hal hh h => ⟨h.1, h.2.1.mv hal hh, h.2.2⟩) (fun r U U' V V' h1 hal h2 h => ⟨NewArr.mv r U U' V V' h1 hal h2 h.1, by rw [h1, h2]; exact h.2⟩) ?_
  intro p e s m args below meth c s₁ X0 hexec hbytes hml hret hlk hnm hown hh0 W hP
  obtain ⟨rfl, hA, l1, l2, hp⟩ := hP
  have a31 := hA.1.2.2.2
  have c1 : Steps p.tables e below (s₁.setTop (entryFrame m #[.ref b, .int (Int32.ofNat o), .int (Int32.ofNat len)] 6)) (s₁.setTop (mkF m 0 #[.val (.ref b), .val (.int (Int32.ofNat o)), .val (.int (Int32.ofNat len)), .unset, .unset, .unset] [])) := entry rfl
  have c2 : Steps p.tables e below (s₁.setTop (entryFrame m #[.ref b, .int (Int32.ofNat o), .int (Int32.ofNat len)] 6)) (s₁.setTop (mkF m 1 #[.val (.ref b), .val (.int (Int32.ofNat o)), .val (.int (Int32.ofNat len)), .unset, .unset, .unset] [.int (Int32.ofNat len)])) := c1.trans (by
    refine XS.iloadN X0.here hexec rfl (hb hbytes d0) rfl ?_
    exact Steps.refl _)
  obtain ⟨T3, B3, X3, ba3, bs3, bv3, bh3, bf3, st3⟩ := X0.anew hexec (atype := .byte) (wk W (.arrayClass .byte)) rfl (by show len * 1 ≤ _; omega) (by omega) (g := (mkF m 1 #[.val (.ref b), .val (.int (Int32.ofNat o)), .val (.int (Int32.ofNat len)), .unset, .unset, .unset] [.int (Int32.ofNat len)])) rfl (hb hbytes d1) (rest := []) rfl (Nat.le_refl _) (by show 0 + len ≤ len; omega)
  rw [hh0] at ba3 st3
  have kp3 : XT.Kept s T3 := (XT.Kept.of_eq hh0).push bh3
  have hA3 := hA.keep X3.warmed.alike (kp3 _ _ hA.1.1)
  have hne : b ≠ s.heap.size := hA.1.ne
  have c4 : Steps p.tables e below (s₁.setTop (entryFrame m #[.ref b, .int (Int32.ofNat o), .int (Int32.ofNat len)] 6)) (T3.setTop (mkF m 3 #[.val (.ref b), .val (.int (Int32.ofNat o)), .val (.int (Int32.ofNat len)), .unset, .unset, .unset] [.ref s.heap.size])) := c2.trans (st3 _ (Steps.refl _))
  have c5 : Steps p.tables e below (s₁.setTop (entryFrame m #[.ref b, .int (Int32.ofNat o), .int (Int32.ofNat len)] 6)) (T3.setTop (mkF m 9 #[.val (.ref b), .val (.int (Int32.ofNat o)), .val (.int (Int32.ofNat len)), .val (.ref s.heap.size), .unset, .unset] [.int (Int32.ofNat len), .int 0, .ref s.heap.size, .int (Int32.ofNat o), .ref b])) := c4.trans (by
    refine XS.astoreN X3.here hexec rfl (hb hbytes d3) rfl rfl rfl ?_
    refine XS.aloadN X3.here hexec rfl (hb hbytes d4) rfl rfl ?_
    refine XS.iloadN X3.here hexec rfl (hb hbytes d5) rfl ?_
    refine XS.aloadN X3.here hexec rfl (hb hbytes d6) rfl rfl ?_
    refine iconstV X3.here hexec rfl 0 (hb hbytes d7) (by decide) ?_
    refine XS.iloadN X3.here hexec rfl (hb hbytes d8) rfl ?_
    exact Steps.refl _)
  obtain ⟨v6, T6, X6, E6, g6⟩ := X3.callS hexec (Cmp5.law l b A s.heap.size B3 o 0 len) hown (wks W (staticW U16 115 Cmp5.yN)) (wk W Cmp5.tab) (W := 0) (Nat.le_of_ble_eq_true rfl) (Nat.le_of_ble_eq_true rfl) (Nat.le_refl _) (by show 0 + len + 0 ≤ len; omega) (g := (mkF m 9 #[.val (.ref b), .val (.int (Int32.ofNat o)), .val (.int (Int32.ofNat len)), .val (.ref s.heap.size), .unset, .unset] [.int (Int32.ofNat len), .int (Int32.ofNat 0), .ref s.heap.size, .int (Int32.ofNat o), .ref b])) rfl (by rw [hml]; rfl) c5 (argsL := [.ref b, .int (Int32.ofNat o), .ref s.heap.size, .int (Int32.ofNat 0), .int (Int32.ofNat len)]) (rest := []) rfl rfl (by show 2 * 0 + 0 ≤ _; decide) (hb hbytes d9) (⟨rfl, hA3, ba3, hne, l1, by rw [bs3]; simp, hp⟩)
  obtain ⟨rfl, B6, p6, f6⟩ := E6
  have c7 : Steps p.tables e below (s₁.setTop (entryFrame m #[.ref b, .int (Int32.ofNat o), .int (Int32.ofNat len)] 6)) (T6.setTop (mkF m 12 #[.val (.ref b), .val (.int (Int32.ofNat o)), .val (.int (Int32.ofNat len)), .val (.ref s.heap.size), .unset, .unset] [.int (Int32.ofNat len)])) := g6
  have c8 : Steps p.tables e below (s₁.setTop (entryFrame m #[.ref b, .int (Int32.ofNat o), .int (Int32.ofNat len)] 6)) (T6.setTop (mkF m 58 #[.val (.ref b), .val (.int (Int32.ofNat o)), .val (.int (Int32.ofNat len)), .val (.ref s.heap.size), .val (.int (Int32.ofNat len)), .unset] [.ref s.heap.size])) := c7.trans (by
    refine XS.istore X6.here hexec rfl (hb hbytes d12) rfl rfl ?_
    refine XS.iload X6.here hexec rfl (hb hbytes d14) rfl ?_
    refine XS.iloadN X6.here hexec rfl (hb hbytes d16) rfl ?_
    refine XS.icmpYes X6.here hexec rfl (pc0 := 17) rfl (hb hbytes d17) rfl (ii_eq_t rfl) (by decide) rfl ?_
    refine XS.aloadN X6.here hexec rfl (hb hbytes d57) rfl rfl ?_
    exact Steps.refl _)
  have X8 := X6.wide (L' := []) (cells' := 1) (slots' := len) (fun x hx hlt => by
    simp only [List.nil_append, copyLocs, List.mem_map, List.mem_range] at hx
    obtain ⟨i, -, rfl⟩ := hx
    exact absurd hlt (Nat.lt_irrefl _)) (Nat.le_refl _) (by omega)
  exact ⟨T6, some (.ref s.heap.size), _, _, _, X8, rfl, rfl, rfl, (fun h => by cases h), ⟨⟨rfl, B6, ba3.like (X3.warmed.alike.symm.trans X6.warmed.alike) p6.1 f6.1 f6.2.1 f6.2.2.1, f6.2.1.trans bv3, by rw [X6.warmed.alike.findClass, f6.1]; exact bf3, by rw [f6.2.2.1, bs3]; simp, fun j hj => by rw [f6.2.2.2 j, if_pos (by omega)]; rfl, kp3.put p6 (Nat.le_refl _)⟩, by rw [p6.2.2, bh3, hh0]; simp⟩, fun fs hl => c8.trans (X8.areturnOut hexec rfl hret rfl (hb hbytes d58) hl)⟩
end Cmp3
namespace CodL
def yN : MethodName := ⟨"java/lang/StringUTF16", "coderFromArrayLen", "([BI)B"⟩
abbrev yB : ByteArray := jdk_52_method_15_code
theorem d0 : decode yB 0 = .ok (.iload_n 1, 1) := by decide +kernel
theorem d1 : decode yB 1 = .ok (.aload_n 0, 1) := by decide +kernel
theorem d2 : decode yB 2 = .ok (.arraylength, 1) := by decide +kernel
theorem d3 : decode yB 3 = .ok (.isub, 1) := by decide +kernel
theorem d4 : decode yB 4 = .ok (.bipush 31, 2) := by decide +kernel
theorem d6 : decode yB 6 = .ok (.iushr, 1) := by decide +kernel
theorem d7 : decode yB 7 = .ok (.i2b, 1) := by decide +kernel
theorem d8 : decode yB 8 = .ok (.ireturn, 1) := by decide +kernel
def site : List Cond := []
def tab : Cond := tabOf yN yB 2 (some .byte) site
def P (d : Addr) (B : Cell) (args : Array Value) (s : State) : Prop := args = #[.ref d, .int (Int32.ofNat B.slots.size)] ∧ Arr .byte d B s
def E (r : Option Value) (s u : State) : Prop := XT.PureE (some (.int 0)) r s u
/-- an array as long as the number of chars: LATIN1 -/
theorem law (l : Launch) (d : Addr) (B : Cell) : Law l yN 2 2 0 0 yB 2 (some .byte) site (P d B) E [] 0 0 := by
  refine Law.of_walk (plainFor_of_name (by decide +kernel)) (by decide +kernel) (by decide +kernel) (by decide) (fun _ _ h => by rw [h.1]; rfl) (fun _ U U' hal hh h => ⟨h.1, h.2.mv hal hh⟩) (fun r U U' V V' h1 hal h2 h => XT.PureE.mv r U U' V V' h1 hal h2 h) ?_
  intro p e s m args below meth c s₁ X0 hexec hbytes hml hret hlk hnm hown hh0 W hP
  obtain ⟨rfl, hB⟩ := hP
  have hB0 := hB.mv X0.warmed.alike hh0
  have c1 : Steps p.tables e below (s₁.setTop (entryFrame m #[.ref d, .int (Int32.ofNat B.slots.size)] 2)) (s₁.setTop (mkF m 0 #[.val (.ref d), .val (.int (Int32.ofNat B.slots.size))] [])) := entry rfl
  have c2 : Steps p.tables e below (s₁.setTop (entryFrame m #[.ref d, .int (Int32.ofNat B.slots.size)] 2)) (s₁.setTop (mkF m 2 #[.val (.ref d), .val (.int (Int32.ofNat B.slots.size))] [.ref d, .int (Int32.ofNat B.slots.size)])) := c1.trans (by
    refine XS.iloadN X0.here hexec rfl (hb hbytes d0) rfl ?_
    refine XS.aloadN X0.here hexec rfl (hb hbytes d1) rfl rfl ?_
    exact Steps.refl _)
  have c3 : Steps p.tables e below (s₁.setTop (entryFrame m #[.ref d, .int (Int32.ofNat B.slots.size)] 2)) (s₁.setTop (mkF m 8 #[.val (.ref d), .val (.int (Int32.ofNat B.slots.size))] [.int (lo8 (ushr (Int32.ofNat B.slots.size - Int32.ofNat B.slots.size) 31))])) := c2.trans (by
    refine X0.alen hexec hB0 rfl rfl (hb hbytes d2) ?_
    refine XS.isub X0.here hexec rfl (hb hbytes d3) rfl ?_
    refine bipushV X0.here hexec rfl 31 (hb hbytes d4) (by decide) ?_
    refine iushr X0.here hexec rfl (hb hbytes d6) rfl ?_
    refine i2b X0.here hexec rfl (hb hbytes d7) rfl ?_
    exact Steps.refl _)
  have e0 : lo8 (ushr (Int32.ofNat B.slots.size - Int32.ofNat B.slots.size) 31) = 0 := by rw [Int32.sub_self]; decide
  rw [e0] at c3
  exact ⟨s₁, some (.int 0), _, _, _, X0, rfl, rfl, rfl, (fun h => by cases h), ⟨rfl, hh0⟩, fun fs hl => c3.trans (X0.ireturnOut hexec hret rfl (Or.inr (Or.inr (Or.inl rfl))) (hb hbytes d8) hl)⟩
end CodL
/-- the String at a is Latin-1 over a new byte[] (the heap's one new cell): the low bytes of the len chars of A from o on; every cell but a is kept -/
def Got (a : Addr) (D : Cell) (fV fC : Field) (A : Cell) (o len : Nat) (r : Option Value) (s u : State) : Prop := r = none ∧ ∃ D' V : Cell, Blank "java/lang/String" a D' u ∧ Same D D' [fV.slot, fC.slot] ∧ D'.slots[fV.slot]? = some (.ref s.heap.size) ∧ D'.slots[fC.slot]? = some (.int 0) ∧ Arr .byte s.heap.size V u ∧ V.vm = .none ∧ u.vm.findClass "[B" = some V.cls ∧ V.slots.size = len ∧ (∀ j, j < len → V.slots[j]? = some (.int (lo8 (cv A (o + j))))) ∧ (∀ (y : Addr) (c : Cell), y ≠ a → s.heap[y]? = some c → u.heap[y]? = some c) ∧ u.heap.size = s.heap.size + 1
theorem Got.mv {a : Addr} {D A : Cell} {fV fC : Field} {o len : Nat} : ∀ r (U U' V V' : State), U'.heap = U.heap → V.vm.Alike V'.vm → V'.heap = V.heap → Got a D fV fC A o len r U V → Got a D fV fC A o len r U' V' :=
  fun r U U' V V' h1 hal h2 ⟨e0, D', X, a1, a2, a3, a4, a5, a6, a7, a8, a9, a10, a11⟩ => ⟨e0, D', X, a1.mv hal h2, a2, by rw [h1]; exact a3, a4, by rw [h1]; exact a5.mv hal h2, a6, by rw [hal.findClass]; exact a7, a8, a9, by rw [h1, h2]; exact a10, by rw [h1, h2]; exact a11⟩
namespace New4
def yN : MethodName := ⟨"java/lang/String", "<init>", "([CIILjava/lang/Void;)V"⟩
abbrev yB : ByteArray := jdk_42_method_149_code
theorem d0 : decode yB 0 = .ok (.aload_n 0, 1) := by decide +kernel
theorem d1 : decode yB 1 = .ok (.invokespecial 1, 3) := by decide +kernel
theorem d4 : decode yB 4 = .ok (.iload_n 3, 1) := by decide +kernel
theorem d5 : decode yB 5 = .ok (.ifCond (.ne) 22, 3) := by decide +kernel
theorem d27 : decode yB 27 = .ok (.getstatic 38, 3) := by decide +kernel
theorem d30 : decode yB 30 = .ok (.ifCond (.eq) 28, 3) := by decide +kernel
theorem d33 : decode yB 33 = .ok (.aload_n 1, 1) := by decide +kernel
theorem d34 : decode yB 34 = .ok (.iload_n 2, 1) := by decide +kernel
theorem d35 : decode yB 35 = .ok (.iload_n 3, 1) := by decide +kernel
theorem d36 : decode yB 36 = .ok (.invokestatic 177, 3) := by decide +kernel
theorem d39 : decode yB 39 = .ok (.astore 5, 2) := by decide +kernel
theorem d41 : decode yB 41 = .ok (.aload_n 0, 1) := by decide +kernel
theorem d42 : decode yB 42 = .ok (.aload 5, 2) := by decide +kernel
theorem d44 : decode yB 44 = .ok (.iload_n 3, 1) := by decide +kernel
theorem d45 : decode yB 45 = .ok (.invokestatic 47, 3) := by decide +kernel
theorem d48 : decode yB 48 = .ok (.putfield 15, 3) := by decide +kernel
theorem d51 : decode yB 51 = .ok (.aload_n 0, 1) := by decide +kernel
theorem d52 : decode yB 52 = .ok (.aload 5, 2) := by decide +kernel
theorem d54 : decode yB 54 = .ok (.putfield 9, 3) := by decide +kernel
theorem d57 : decode yB 57 = .ok (.return_, 1) := by decide +kernel
def site : List Cond := [.fieldLink "java/lang/String" 38 "java/lang/String" "COMPACT_STRINGS" "Z", Cmp3.tab, CodL.tab, .laysFinal "java/lang/String" "java/lang/String" "value" "[B", .fieldLink "java/lang/String" 9 "java/lang/String" "value" "[B", .laysFinal "java/lang/String" "java/lang/String" "coder" "B", .fieldLink "java/lang/String" 15 "java/lang/String" "coder" "B"] ++ objW "java/lang/String" 1 ++ staticW "java/lang/String" 177 Cmp3.yN ++ staticW "java/lang/String" 47 CodL.yN
def tab : Cond := tabOf yN yB 6 none site
def P (a : Addr) (D : Cell) (fV fC : Field) (b : Addr) (A : Cell) (z : Int32) (o len : Nat) (args : Array Value) (s : State) : Prop := args = #[.ref a, .ref b, .int (Int32.ofNat o), .int (Int32.ofNat len), .null] ∧ Blank "java/lang/String" a D s ∧ Found "java/lang/String" "value" "[B" fV s ∧ Found "java/lang/String" "coder" "B" fC s ∧ Ch b A s ∧ StaticIs s "java/lang/String" "COMPACT_STRINGS" "Z" (.int z) ∧ ¬ z = 0 ∧ 0 < len ∧ o + len ≤ A.slots.size ∧ len ≤ 536870912 ∧ ∀ i, i < len → ¬ 255 < cv A (o + i)
def E (a : Addr) (D : Cell) (fV fC : Field) (A : Cell) (o len : Nat) (r : Option Value) (s u : State) : Prop := Got a D fV fC A o len r s u
/-- len > 0, no char of the range above 255: a Latin-1 String of their low bytes -/
theorem law (l : Launch) (a : Addr) (D : Cell) (fV fC : Field) (b : Addr) (A : Cell) (z : Int32) (o len : Nat) : Law l yN 5 4 2 35 yB 6 none site (P a D fV fC b A z o len) (E a D fV fC A o len) [⟨a, fC.slot⟩, ⟨a, fV.slot⟩] 1 len := by
  refine Law.of_walk (plainFor_of_name (by decide +kernel)) (by decide +kernel) (by decide +kernel) (by decide) (fun _ _ h => by rw [h.1]; rfl) (fun _ U U' hal hh h => ⟨h.1, h.2.1.mv hal hh, h.2.2.1.al hal, h.2.2.2.1.al hal, h.2.2.2.2.1.mv hal hh, h.2.2.2.2.2.1.there hal hh, h.2.2.2.2.2.2⟩) (fun r U U' V V' h1 hal h2 h => Got.mv r U U' V V' h1 hal h2 h) ?_
  intro p e s m args below meth c s₁ X0 hexec hbytes hml hret hlk hnm hown hh0 W hP
  obtain ⟨rfl, hB, f1, f2, hA, s1, hz, l0, l1, l2, hp⟩ := hP
  have a31 := hA.1.2.2.2
  have c1 : Steps p.tables e below (s₁.setTop (entryFrame m #[.ref a, .ref b, .int (Int32.ofNat o), .int (Int32.ofNat len), .null] 6)) (s₁.setTop (mkF m 0 #[.val (.ref a), .val (.ref b), .val (.int (Int32.ofNat o)), .val (.int (Int32.ofNat len)), .val .null, .unset] [])) := entry rfl
  have c2 : Steps p.tables e below (s₁.setTop (entryFrame m #[.ref a, .ref b, .int (Int32.ofNat o), .int (Int32.ofNat len), .null] 6)) (s₁.setTop (mkF m 1 #[.val (.ref a), .val (.ref b), .val (.int (Int32.ofNat o)), .val (.int (Int32.ofNat len)), .val .null, .unset] [.ref a])) := c1.trans (by
    refine XS.aloadN X0.here hexec rfl (hb hbytes d0) rfl rfl ?_
    exact Steps.refl _)
  obtain ⟨T3, X3, q3, st3⟩ := X0.oinit hexec hown (wks W (objW "java/lang/String" 1)) (g := (mkF m 1 #[.val (.ref a), .val (.ref b), .val (.int (Int32.ofNat o)), .val (.int (Int32.ofNat len)), .val .null, .unset] [.ref a])) rfl (by rw [hml]; rfl) (rest := []) rfl (hb hbytes d1) (W := 0) (by show 2 * 0 + 0 ≤ _; decide) (Nat.le_of_ble_eq_true rfl) (Nat.le_of_ble_eq_true rfl)
  have hh3 := q3.trans hh0
  have c4 : Steps p.tables e below (s₁.setTop (entryFrame m #[.ref a, .ref b, .int (Int32.ofNat o), .int (Int32.ofNat len), .null] 6)) (T3.setTop (mkF m 27 #[.val (.ref a), .val (.ref b), .val (.int (Int32.ofNat o)), .val (.int (Int32.ofNat len)), .val .null, .unset] [])) := (c2.trans (st3 _ (Steps.refl _))).trans (by
    refine XS.iloadN X3.here hexec rfl (hb hbytes d4) rfl ?_
    refine XS.ifYes X3.here hexec rfl (pc0 := 5) rfl (hb hbytes d5) rfl (i0_ne_t (nz32 (by omega) l0)) (by decide) rfl ?_
    exact Steps.refl _)
  obtain ⟨T5, X5, q5, st5⟩ := X3.sget hexec hown (wk W (.fieldLink "java/lang/String" 38 "java/lang/String" "COMPACT_STRINGS" "Z")) s1 (fun _ _ h => by rw [hh3]; exact h) (g := (mkF m 27 #[.val (.ref a), .val (.ref b), .val (.int (Int32.ofNat o)), .val (.int (Int32.ofNat len)), .val .null, .unset] [])) rfl (hb hbytes d27)
  have hh5 := q5.trans hh3
  have c6 : Steps p.tables e below (s₁.setTop (entryFrame m #[.ref a, .ref b, .int (Int32.ofNat o), .int (Int32.ofNat len), .null] 6)) (T5.setTop (mkF m 30 #[.val (.ref a), .val (.ref b), .val (.int (Int32.ofNat o)), .val (.int (Int32.ofNat len)), .val .null, .unset] [.int z])) := c4.trans (st5 _ (Steps.refl _))
  have c7 : Steps p.tables e below (s₁.setTop (entryFrame m #[.ref a, .ref b, .int (Int32.ofNat o), .int (Int32.ofNat len), .null] 6)) (T5.setTop (mkF m 36 #[.val (.ref a), .val (.ref b), .val (.int (Int32.ofNat o)), .val (.int (Int32.ofNat len)), .val .null, .unset] [.int (Int32.ofNat len), .int (Int32.ofNat o), .ref b])) := c6.trans (by
    refine XS.ifNo X5.here hexec rfl (hb hbytes d30) rfl (i0_eq_f hz) ?_
    refine XS.aloadN X5.here hexec rfl (hb hbytes d33) rfl rfl ?_
    refine XS.iloadN X5.here hexec rfl (hb hbytes d34) rfl ?_
    refine XS.iloadN X5.here hexec rfl (hb hbytes d35) rfl ?_
    exact Steps.refl _)
  obtain ⟨v8, T8, X8, E8, g8⟩ := X5.callS hexec (Cmp3.law l b A o len) hown (wks W (staticW "java/lang/String" 177 Cmp3.yN)) (wk W Cmp3.tab) (W := 0) (Nat.le_of_ble_eq_true rfl) (Nat.le_of_ble_eq_true rfl) (Nat.le_refl _) (by show 0 + len ≤ len; omega) (g := (mkF m 36 #[.val (.ref a), .val (.ref b), .val (.int (Int32.ofNat o)), .val (.int (Int32.ofNat len)), .val .null, .unset] [.int (Int32.ofNat len), .int (Int32.ofNat o), .ref b])) rfl (by rw [hml]; rfl) c7 (argsL := [.ref b, .int (Int32.ofNat o), .int (Int32.ofNat len)]) (rest := []) rfl rfl (by show 2 * 0 + 0 ≤ _; decide) (hb hbytes d36) (⟨rfl, hA.mv X5.warmed.alike hh5, l1, l2, hp⟩)
  obtain ⟨e8, z8⟩ := E8
  obtain ⟨rfl, N, n1, n2, n3, n4, n5, n6⟩ := NewArr.mv _ T5 s _ _ hh5.symm (Vm.Alike.refl _) rfl e8
  rw [hh5] at z8
  have hB1 := hB.keep X8.warmed.alike (n6 _ _ hB.1)
  have hne : s.heap.size ≠ a := (Nat.ne_of_lt (Array.getElem?_eq_some_iff.mp hB.1).1).symm
  have c9 : Steps p.tables e below (s₁.setTop (entryFrame m #[.ref a, .ref b, .int (Int32.ofNat o), .int (Int32.ofNat len), .null] 6)) (T8.setTop (mkF m 39 #[.val (.ref a), .val (.ref b), .val (.int (Int32.ofNat o)), .val (.int (Int32.ofNat len)), .val .null, .unset] [.ref s.heap.size])) := g8
  have c10 : Steps p.tables e below (s₁.setTop (entryFrame m #[.ref a, .ref b, .int (Int32.ofNat o), .int (Int32.ofNat len), .null] 6)) (T8.setTop (mkF m 45 #[.val (.ref a), .val (.ref b), .val (.int (Int32.ofNat o)), .val (.int (Int32.ofNat len)), .val .null, .val (.ref s.heap.size)] [.int (Int32.ofNat N.slots.size), .ref s.heap.size, .ref a])) := by
    have hc : Steps p.tables e below (s₁.setTop (entryFrame m #[.ref a, .ref b, .int (Int32.ofNat o), .int (Int32.ofNat len), .null] 6)) (T8.setTop (mkF m 45 #[.val (.ref a), .val (.ref b), .val (.int (Int32.ofNat o)), .val (.int (Int32.ofNat len)), .val .null, .val (.ref s.heap.size)] [.int (Int32.ofNat len), .ref s.heap.size, .ref a])) := c9.trans (by
      refine XS.astore X8.here hexec rfl (hb hbytes d39) rfl rfl rfl ?_
      refine XS.aloadN X8.here hexec rfl (hb hbytes d41) rfl rfl ?_
      refine XS.aload X8.here hexec rfl (hb hbytes d42) rfl rfl ?_
      refine XS.iloadN X8.here hexec rfl (hb hbytes d44) rfl ?_
      exact Steps.refl _)
    rw [n4]; exact hc
  obtain ⟨v11, T11, X11, E11, g11⟩ := X8.callS hexec (CodL.law l s.heap.size N) hown (wks W (staticW "java/lang/String" 47 CodL.yN)) (wk W CodL.tab) (W := 1) (Nat.le_of_ble_eq_true rfl) (Nat.le_of_ble_eq_true rfl) (Nat.le_refl _) (by show 0 + len + 0 ≤ len; omega) (g := (mkF m 45 #[.val (.ref a), .val (.ref b), .val (.int (Int32.ofNat o)), .val (.int (Int32.ofNat len)), .val .null, .val (.ref s.heap.size)] [.int (Int32.ofNat N.slots.size), .ref s.heap.size, .ref a])) rfl (by rw [hml]; rfl) c10 (argsL := [.ref s.heap.size, .int (Int32.ofNat N.slots.size)]) (rest := [.ref a]) rfl rfl (by show 2 * 0 + (1 + 0) ≤ _; decide) (hb hbytes d45) (⟨rfl, n1⟩)
  obtain ⟨rfl, q11⟩ := E11
  have hB11 := hB1.mv (X8.warmed.alike.symm.trans X11.warmed.alike) q11
  have c12 : Steps p.tables e below (s₁.setTop (entryFrame m #[.ref a, .ref b, .int (Int32.ofNat o), .int (Int32.ofNat len), .null] 6)) (T11.setTop (mkF m 48 #[.val (.ref a), .val (.ref b), .val (.int (Int32.ofNat o)), .val (.int (Int32.ofNat len)), .val .null, .val (.ref s.heap.size)] [.int 0, .ref a])) := g11
  obtain ⟨T13, X13, p13, bl13, sl13, st13⟩ := X11.finit hexec hown (wk W (.fieldLink "java/lang/String" 15 "java/lang/String" "coder" "B")) (Or.inr ⟨_, (wk W (.laysFinal "java/lang/String" "java/lang/String" "coder" "B"))⟩) (Or.inl ⟨rfl, hnm⟩) f2 (Or.inl rfl) hB11 (t := .byte) (by decide +kernel) rfl (g := (mkF m 48 #[.val (.ref a), .val (.ref b), .val (.int (Int32.ofNat o)), .val (.int (Int32.ofNat len)), .val .null, .val (.ref s.heap.size)] [.int 0, .ref a])) rfl (rest := []) rfl (hb hbytes d48)
  have c14 : Steps p.tables e below (s₁.setTop (entryFrame m #[.ref a, .ref b, .int (Int32.ofNat o), .int (Int32.ofNat len), .null] 6)) (T13.setTop (mkF m 54 #[.val (.ref a), .val (.ref b), .val (.int (Int32.ofNat o)), .val (.int (Int32.ofNat len)), .val .null, .val (.ref s.heap.size)] [.ref s.heap.size, .ref a])) := (c12.trans (st13 _ (Steps.refl _))).trans (by
    refine XS.aloadN X13.here hexec rfl (hb hbytes d51) rfl rfl ?_
    refine XS.aload X13.here hexec rfl (hb hbytes d52) rfl rfl ?_
    exact Steps.refl _)
  obtain ⟨T15, X15, p15, bl15, sl15, st15⟩ := X13.finit hexec hown (wk W (.fieldLink "java/lang/String" 9 "java/lang/String" "value" "[B")) (Or.inr ⟨_, (wk W (.laysFinal "java/lang/String" "java/lang/String" "value" "[B"))⟩) (Or.inl ⟨rfl, hnm⟩) f1 (Or.inl rfl) bl13 (t := (.array .byte)) (by decide +kernel) rfl (g := (mkF m 54 #[.val (.ref a), .val (.ref b), .val (.int (Int32.ofNat o)), .val (.int (Int32.ofNat len)), .val .null, .val (.ref s.heap.size)] [.ref s.heap.size, .ref a])) rfl (rest := []) rfl (hb hbytes d54)
  have c16 : Steps p.tables e below (s₁.setTop (entryFrame m #[.ref a, .ref b, .int (Int32.ofNat o), .int (Int32.ofNat len), .null] 6)) (T15.setTop (mkF m 57 #[.val (.ref a), .val (.ref b), .val (.int (Int32.ofNat o)), .val (.int (Int32.ofNat len)), .val .null, .val (.ref s.heap.size)] [])) := c14.trans (st15 _ (Steps.refl _))
  have ap := apart (Or.inr ⟨_, (wk W (.laysFinal "java/lang/String" "java/lang/String" "value" "[B"))⟩) (Or.inr ⟨_, (wk W (.laysFinal "java/lang/String" "java/lang/String" "coder" "B"))⟩) f1 f2 (t₁ := .array .byte) (t₂ := .byte) (by decide +kernel) (by decide +kernel) (by decide)
  have al := X8.warmed.alike.symm.trans X15.warmed.alike
  have n7 : T11.heap[s.heap.size]? = some N := by rw [q11]; exact n1.1
  exact ⟨T15, none, _, _, _, X15, by simp, rfl, by omega, (fun _ => rfl), ⟨rfl, _, N, bl15, ((Same.refl D _).set _ (by simp)).set _ (by simp), sl15, (Cell.slots_setSlot_ne _ ap).trans sl13, n1.keep al (p15.other hne (p13.other hne n7)), n2, by rw [al.findClass]; exact n3, n4, n5, fun y c h1 h2 => p15.other h1 (p13.other h1 (by rw [q11]; exact n6 y c h2)), by rw [p15.2.2, p13.2.2, q11]; exact z8⟩, fun fs hl => c16.trans (X15.returnOut hexec hret (hb hbytes d57) hl)⟩
end New4
namespace New1
def yN : MethodName := ⟨"java/lang/String", "<init>", "([C)V"⟩
abbrev yB : ByteArray := jdk_42_method_3_code
theorem d0 : decode yB 0 = .ok (.aload_n 0, 1) := by decide +kernel
theorem d1 : decode yB 1 = .ok (.aload_n 1, 1) := by decide +kernel
theorem d2 : decode yB 2 = .ok (.iconst 0, 1) := by decide +kernel
theorem d3 : decode yB 3 = .ok (.aload_n 1, 1) := by decide +kernel
theorem d4 : decode yB 4 = .ok (.arraylength, 1) := by decide +kernel
theorem d5 : decode yB 5 = .ok (.aconst_null, 1) := by decide +kernel
theorem d6 : decode yB 6 = .ok (.invokespecial 27, 3) := by decide +kernel
theorem d9 : decode yB 9 = .ok (.return_, 1) := by decide +kernel
def site : List Cond := [New4.tab] ++ initW "java/lang/String" 27 New4.yN
def tab : Cond := tabOf yN yB 2 none site
def P (a : Addr) (D : Cell) (fV fC : Field) (b : Addr) (A : Cell) (z : Int32) (args : Array Value) (s : State) : Prop := args = #[.ref a, .ref b] ∧ Blank "java/lang/String" a D s ∧ Found "java/lang/String" "value" "[B" fV s ∧ Found "java/lang/String" "coder" "B" fC s ∧ Ch b A s ∧ StaticIs s "java/lang/String" "COMPACT_STRINGS" "Z" (.int z) ∧ ¬ z = 0 ∧ 0 < A.slots.size ∧ A.slots.size ≤ 536870912 ∧ ∀ i, i < A.slots.size → ¬ 255 < cv A i
def E (a : Addr) (D : Cell) (fV fC : Field) (A : Cell) (r : Option Value) (s u : State) : Prop := Got a D fV fC A 0 A.slots.size r s u
/-- new String(chars), not empty, no char above 255: a Latin-1 String of their low bytes -/
theorem law (l : Launch) (a : Addr) (D : Cell) (fV fC : Field) (b : Addr) (A : Cell) (z : Int32) : Law l yN 2 1 3 52 yB 2 none site (P a D fV fC b A z) (E a D fV fC A) [⟨a, fC.slot⟩, ⟨a, fV.slot⟩] 1 A.slots.size := by
  refine Law.of_walk (plainFor_of_name (by decide +kernel)) (by decide +kernel) (by decide +kernel) (by decide) (fun _ _ h => by rw [h.1]; rfl) (fun _ U U' hal hh h => ⟨h.1, h.2.1.mv hal hh, h.2.2.1.al hal, h.2.2.2.1.al hal, h.2.2.2.2.1.mv hal hh, h.2.2.2.2.2.1.there hal hh, h.2.2.2.2.2.2⟩) (fun r U U' V V' h1 hal h2 h => Got.mv r U U' V V' h1 hal h2 h) ?_
  intro p e s m args below meth c s₁ X0 hexec hbytes hml hret hlk hnm hown hh0 W hP
  obtain ⟨rfl, hB, f1, f2, hA, s1, hz, l0, l2, hp⟩ := hP
  have c1 : Steps p.tables e below (s₁.setTop (entryFrame m #[.ref a, .ref b] 2)) (s₁.setTop (mkF m 0 #[.val (.ref a), .val (.ref b)] [])) := entry rfl
  have c2 : Steps p.tables e below (s₁.setTop (entryFrame m #[.ref a, .ref b] 2)) (s₁.setTop (mkF m 6 #[.val (.ref a), .val (.ref b)] [.null, .int (Int32.ofNat A.slots.size), .int 0, .ref b, .ref a])) := c1.trans (by
    refine XS.aloadN X0.here hexec rfl (hb hbytes d0) rfl rfl ?_
    refine XS.aloadN X0.here hexec rfl (hb hbytes d1) rfl rfl ?_
    refine iconstV X0.here hexec rfl 0 (hb hbytes d2) (by decide) ?_
    refine XS.aloadN X0.here hexec rfl (hb hbytes d3) rfl rfl ?_
    refine X0.alen hexec (hA.1.mv X0.warmed.alike hh0) rfl rfl (hb hbytes d4) ?_
    refine XS.aconstNull X0.here hexec rfl (hb hbytes d5) ?_
    exact Steps.refl _)
  obtain ⟨v3, T3, X3, E3, g3⟩ := X0.callN hexec (New4.law l a D fV fC b A z 0 A.slots.size) rfl hown (wks W (initW "java/lang/String" 27 New4.yN)) (W New4.tab (by simp only [site, List.mem_cons, List.mem_append, true_or, or_true])) (W := 0) (Nat.le_of_ble_eq_true rfl) (Nat.le_of_ble_eq_true rfl) (Nat.le_refl _) (by show 0 + A.slots.size ≤ A.slots.size; omega) (g := (mkF m 6 #[.val (.ref a), .val (.ref b)] [.null, .int (Int32.ofNat A.slots.size), .int (Int32.ofNat 0), .ref b, .ref a])) rfl (by rw [hml]; rfl) c2 (argsL := [.ref b, .int (Int32.ofNat 0), .int (Int32.ofNat A.slots.size), .null]) (rest := []) rfl rfl (by show 2 * 0 + 0 ≤ _; decide) (hb hbytes d6) (⟨rfl, hB.mv X0.warmed.alike hh0, f1.al X0.warmed.alike, f2.al X0.warmed.alike, hA.mv X0.warmed.alike hh0, s1.there X0.warmed.alike hh0, hz, l0, by omega, l2, fun i hi => by rw [Nat.zero_add]; exact hp i hi⟩)
  have e0 := Got.mv _ s₁ s _ _ hh0.symm (Vm.Alike.refl _) rfl E3
  obtain rfl := e0.1
  have c4 : Steps p.tables e below (s₁.setTop (entryFrame m #[.ref a, .ref b] 2)) (T3.setTop (mkF m 9 #[.val (.ref a), .val (.ref b)] [])) := g3
  exact ⟨T3, none, _, _, _, X3, by simp, rfl, by omega, (fun _ => rfl), e0, fun fs hl => c4.trans (X3.returnOut hexec hret (hb hbytes d9) hl)⟩
theorem pays {l : Launch} {R : Room} {p : Program} {e : Env} {below : List Frame} {s : State} {sargs : Array Value} {len W : Nat} (a : Addr) (D : Cell) (fV fC : Field) (b : Addr) (A : Cell) (z : Int32) (htab : tab.before sargs s = true) (hfr : 4 ≤ R.frames) (hlo : W + 65 ≤ R.locals) :
    Back l R p e below s sargs yN len W (fun A₁ a₁ => A₁.cells + 1 ≤ R.cells ∧ A₁.slots + A.slots.size ≤ R.slots ∧ P a D fV fC b A z a₁ A₁.U) (fun A₁ _ v₁ B₁ => E a D fV fC A v₁ A₁.U B₁.U ∧ B₁.locs = A₁.locs ++ [⟨a, fC.slot⟩, ⟨a, fV.slot⟩] ∧ B₁.cells = A₁.cells + 1 ∧ B₁.slots = A₁.slots + A.slots.size) :=
  (law l a D fV fC b A z).pays htab hfr (by omega)
end New1
/-- the byte, read back as charAt reads it, is the char -/
theorem lo8_mask {x : Int32} (h0 : ¬ x < 0) (h1 : ¬ 255 < x) : lo8 x &&& 255 = x := by
  have t : ∀ k : Fin 256, lo8 (Int32.ofNat k.val) &&& 255 = Int32.ofNat k.val := by decide +kernel
  rw [Int32.lt_iff_toInt_lt] at h0 h1
  have e0 : (0 : Int32).toInt = 0 := rfl
  have e1 : (255 : Int32).toInt = 255 := rfl
  obtain ⟨k, hk⟩ : ∃ k : Nat, x.toInt = k := ⟨x.toInt.toNat, by omega⟩
  have hx : x = Int32.ofNat k := Int32.toInt_inj.mp (by rw [hk, Int32.toInt_ofNat_small (by omega)])
  rw [hx]
  exact t ⟨k, by omega⟩
end StrChars
namespace StrChars.Road
open Jvm Sem ClassFile Op Lib Jvm.Stand Jvm.Free Jvm.Free.XT
open Jvm.Lib.Cold (StaticIs)
abbrev ST : String := "java/lang/String"
/-- every table word that New1's law asks, flat -/
abbrev words : List Jvm.Cond := [.code New1.yN New1.yB 2 none, .initialized ST, .methodLink ST 27 New4.yN, .instanceMethod New4.yN,
  .code New4.yN New4.yB 6 none, .fieldLink ST 38 ST "COMPACT_STRINGS" "Z", .laysFinal ST ST "value" "[B", .fieldLink ST 9 ST "value" "[B", .laysFinal ST ST "coder" "B", .fieldLink ST 15 ST "coder" "B",
  .methodLink ST 1 Lib.objectInit, .instanceMethod Lib.objectInit, .code Lib.objectInit ⟨#[0xb1]⟩ 1 none, .methodLink ST 177 Cmp3.yN, .static Cmp3.yN, .methodLink ST 47 CodL.yN, .static CodL.yN,
  .code Cmp3.yN Cmp3.yB 6 (some (.array .byte)), .initialized U16, .arrayClass .byte, .methodLink U16 115 Cmp5.yN, .static Cmp5.yN, .code Cmp5.yN Cmp5.yB 7 (some .int), .code CodL.yN CodL.yB 2 (some .byte)]
theorem tab_of {a : Array Value} {s : State} (h : ∀ w ∈ words, w.before a s = true) : New1.tab.before a s = true := by
  have h5 : Cmp5.tab.before a s = true := unparts (wk h (.code Cmp5.yN Cmp5.yB 7 (some .int))) (wks h (.initialized Cmp5.yN.cls :: Cmp5.site))
  have hc : CodL.tab.before a s = true := unparts (wk h (.code CodL.yN CodL.yB 2 (some .byte))) (wks h (.initialized CodL.yN.cls :: CodL.site))
  have q5 : ∀ w ∈ Cmp5.tab :: words, w.before a s = true := fun w hw => (List.mem_cons.mp hw).elim (fun e => e ▸ h5) (h w)
  have h3 : Cmp3.tab.before a s = true := unparts (wk q5 (.code Cmp3.yN Cmp3.yB 6 (some (.array .byte)))) (wks q5 (.initialized Cmp3.yN.cls :: Cmp3.site))
  have q3 : ∀ w ∈ Cmp3.tab :: CodL.tab :: words, w.before a s = true := fun w hw => (List.mem_cons.mp hw).elim (fun e => e ▸ h3) fun hw => (List.mem_cons.mp hw).elim (fun e => e ▸ hc) (h w)
  have h4 : New4.tab.before a s = true := unparts (wk q3 (.code New4.yN New4.yB 6 none)) (wks q3 (.initialized New4.yN.cls :: New4.site))
  have q4 : ∀ w ∈ New4.tab :: words, w.before a s = true := fun w hw => (List.mem_cons.mp hw).elim (fun e => e ▸ h4) (h w)
  exact unparts (wk q4 (.code New1.yN New1.yB 2 none)) (wks q4 (.initialized New1.yN.cls :: New1.site))
/-- the words ride from the start Z to the walk's own state -/
theorem moved {Z s : State} {a0 args : Array Value} (hZ : Z.Warmed39 s.vm) (hw : ∀ d ∈ words, d.before a0 Z = true) : ∀ d ∈ words, d.before args s = true := fun d hd => by
  have q := hw d hd
  have t : ∀ d ∈ words, d = .arrayClass .byte ∨ (d.onTables && d.keepsFace) = true := by decide +kernel
  rcases t d hd with rfl | t
  · exact RoadKit.mvA hZ q
  · exact RoadKit.mv hZ q t
/-- WHAT COMES BACK, over the tables of the start Z: h the heap at the call, h' behind it -/
def Q (Z : State) (x : Addr) (A : Cell) (h : Heap) (v : Option Value) (h' : Heap) (L : List Loc) : Prop := v = none ∧ (∀ y ∈ L, y.base = x) ∧ RoadKit.Keep h h' [x] ∧ h'.size = h.size + 1 ∧ RoadKit.Exa Z h' x ST ∧ RoadKit.Fld Z h' x ST "value" "[B" (.ref h.size) ∧ RoadKit.Fld Z h' x ST "coder" "B" (.int 0) ∧
  (∃ V : Cell, RoadKit.Arr Z h' h.size V .byte ∧ V.vm = .none ∧ Z.vm.findClass "[B" = some V.cls ∧ V.slots.size = A.slots.size ∧ ∀ j, j < A.slots.size → V.slots[j]? = some (.int (lo8 (cv A j)))) ∧
  ∀ (O n d : String) (w : Value), RoadKit.Fld Z h x O n d w → RoadKit.slotOf Z O n d ≠ RoadKit.slotOf Z ST "value" "[B" → RoadKit.slotOf Z O n d ≠ RoadKit.slotOf Z ST "coder" "B" → RoadKit.Fld Z h' x O n d w
/-- **new String(chars) AT A CALL, IN THE ROAD'S FORM**: for specialBack behind newO: x the fresh String, b the char[] with the cell A -/
theorem back {p : Program} {l : Launch} {e : Env} {R : Room} {s : State} {args : Array Value} {below : List Frame} {len W : Nat} {Z : State} {a0 : Array Value} {h : Heap} (hZ : Z.Warmed39 s.vm) (hw : ∀ d ∈ words, d.before a0 Z = true) {kI : Nat} (wi : (Jvm.Cond.instantiable ST kI).before a0 Z = true)
    {x b : Addr} {A : Cell} {z : Int32} {v0 c0 : Value} (E : RoadKit.Exa Z h x ST) (V : RoadKit.Fld Z h x ST "value" "[B" v0) (C : RoadKit.Fld Z h x ST "coder" "B" c0) (K : RoadKit.Arr Z h b A .char) (hty : Typed .char A) (S : RoadKit.Sta Z h ST "COMPACT_STRINGS" "Z" (.int z)) (hz : ¬ z = 0)
    (l0 : 0 < A.slots.size) (l2 : A.slots.size ≤ 536870912) (hp : ∀ i, i < A.slots.size → ¬ 255 < cv A i) (hfr : 4 ≤ R.frames) (hlo : W + 65 ≤ R.locals) :
    Back l R p e below s args New1.yN len W (fun P a => a = #[.ref x, .ref b] ∧ P.U.heap = h ∧ P.cells + 1 ≤ R.cells ∧ P.slots + A.slots.size ≤ R.slots)
      (fun P _ v B => ∃ L, Q Z x A h v B.U.heap L ∧ B.locs = P.locs ++ L ∧ B.cells = P.cells + 1 ∧ B.slots = P.slots + A.slots.size) := by
  intro m meth c P g ig mk a X hg hsize hdg hW hn hp'
  obtain ⟨rfl, rfl, r1, r2⟩ := hp'
  have al : Z.vm.Alike P.U.vm := hZ.alike.trans X.warmed.alike
  obtain ⟨D, cfV, kV, iV, fV, hD, gV, stV, knV, obV, asV, slV⟩ := id V
  obtain ⟨D', cfC, kC, iC, fC, hD', gC, stC, -, -, asC, slC⟩ := id C
  cases hD.symm.trans hD'
  obtain ⟨D2, kD, e1, e2, e3, e4, e5⟩ := id E
  cases hD.symm.trans e1
  obtain ⟨c2, k2, i1, i2, i3, -⟩ := Cond.instantiable_spec wi
  cases e2.symm.trans i1
  cases e3.symm.trans i2
  obtain ⟨kU, u1, u2⟩ := al.2.2 _ _ e3
  have hB : Blank ST x D P.U := ⟨hD, ⟨knV, fun q hq => by rw [hq] at obV; cases obV⟩, by rw [al.findClass]; exact e2, kU, u1, by rw [u2]; exact i3, by rw [u2]; exact e5 i3⟩
  have F1 : Found ST "value" "[B" fV P.U := ⟨SBG.found_only al ⟨cfV, kV, iV, gV⟩, stV⟩
  have F2 : Found ST "coder" "B" fC P.U := ⟨SBG.found_only al ⟨cfC, kC, iC, gC⟩, stC⟩
  have hA : Ch b A P.U := ⟨⟨K.1, State.isArrayOf_alike al K.2.1, K.2.2, by omega⟩, hty⟩
  have hS : StaticIs P.U ST "COMPACT_STRINGS" "Z" (.int z) := by
    obtain ⟨cfS, iS, kS, fS, st, cS, t1, t2, t3, t4, t5, t6, t7⟩ := S
    exact StaticIs.there (s := { Z with heap := P.U.heap }) ⟨cfS, iS, kS, fS, st, cS, t1, t2, t3, t4, t5, (fun q => by rw [q] at t6; cases t6), t7⟩ al rfl
  obtain ⟨v, B, X', ⟨⟨hv, E', V', q1, q2, q3, q4, q5, q6, q7, q8, q9, q10, q11⟩, hl, hc, hs⟩, st⟩ := New1.pays x D fV fC b A z (tab_of (moved hZ hw)) hfr hlo m meth c P g ig mk _ X hg hsize hdg hW hn ⟨r1, r2, rfl, hB, F1, F2, hA, hS, hz, l0, l2, hp⟩
  have al' : Z.vm.Alike B.U.vm := hZ.alike.trans X'.warmed.alike
  have hsz : E'.slots.size = D.slots.size := by
    obtain ⟨-, -, -, kB, w1, w2, w3⟩ := q1
    obtain ⟨kB', y1, y2⟩ := al'.2.2 _ _ e3
    rw [q2.2.1] at w1
    cases w1.symm.trans y1
    rw [w3, e5 i3, y2]
  refine ⟨v, B, X', ⟨_, ⟨hv, ?_, ⟨by omega, fun y cy hy hn' => q10 y cy (by simpa using hn') hy, fun y cy hy => ?_⟩, q11, ⟨E', _, q1.1, by rw [q2.2.1]; exact e2, by rw [q2.2.1]; exact e3, by rw [q2.1]; exact obV, fun _ => by rw [hsz]; exact e5 i3⟩,
    ⟨E', cfV, kV, iV, fV, q1.1, gV, stV, by rw [q2.1]; exact knV, by rw [q2.1]; exact obV, by rw [q2.2.1]; exact asV, q3⟩, ⟨E', cfC, kC, iC, fC, q1.1, gC, stC, by rw [q2.1]; exact knV, by rw [q2.1]; exact obV, by rw [q2.2.1]; exact asC, q4⟩,
    ⟨V', ⟨q5.1, State.isArrayOf_alike al'.symm q5.2.1, q5.2.2.1⟩, q6, by rw [← al'.findClass]; exact q7, q8, fun j hj => by have := q9 j hj; rwa [Nat.zero_add] at this⟩, fun O n d w F n1 n2 => ?_⟩, hl, hc, hs⟩, st⟩
  · intro y hy
    simp only [List.mem_cons, List.not_mem_nil, or_false] at hy
    rcases hy with rfl | rfl <;> rfl
  · by_cases q : y = x
    · subst q
      cases hD.symm.trans hy
      exact ⟨E', q1.1, q2.2.1, q2.1, hsz⟩
    · exact ⟨cy, q10 y cy q hy, rfl, rfl, rfl⟩
  · obtain ⟨D3, cf, k, i, f, g1, g2, g3, g4, g5, g6, g7⟩ := F
    cases hD.symm.trans g1
    simp only [RoadKit.slotOf, g2, gV, gC, Option.map_some, Option.getD_some] at n1 n2
    exact ⟨E', cf, k, i, f, q1.1, g2, g3, by rw [q2.1]; exact g4, by rw [q2.1]; exact g5, by rw [q2.2.1]; exact g6, by rw [q2.2.2 f.slot (by simp [n1, n2])]; exact g7⟩
end StrChars.Road
namespace StrChars.Road
open Jvm Sem ClassFile Op Lib Jvm.Stand Jvm.Free Jvm.Free.XT
/-- WHAT COMES BACK, the byte[] as a list of values -/
def QA (Z : State) (x : Addr) (zn : Int32) (cs : List Int32) (h : Heap) (v : Option Value) (h' : Heap) (L : List Loc) : Prop := v = none ∧ (∀ y ∈ L, y.base = x) ∧ RoadKit.Keep h h' [x] ∧ h'.size = h.size + 1 ∧ RoadKit.Exa Z h' x ST ∧ RoadKit.Fld Z h' x ST "value" "[B" (.ref h.size) ∧ RoadKit.Fld Z h' x ST "coder" "B" (.int 0) ∧
  (∃ kb, Z.vm.findClass "[B" = some kb ∧ RoadKit.Arv Z h' h.size kb .byte zn (cs.map fun c => .int (lo8 c)) (.int 0)) ∧
  ∀ (O n d : String) (w : Value), RoadKit.Fld Z h x O n d w → RoadKit.slotOf Z O n d ≠ RoadKit.slotOf Z ST "value" "[B" → RoadKit.slotOf Z O n d ≠ RoadKit.slotOf Z ST "coder" "B" → RoadKit.Fld Z h' x O n d w
/-- **new String(chars) AT A CALL, THE ARRAYS AS LISTS**: the char[] at b holds cs, not empty, no char above 255 -/
theorem backArv {p : Program} {l : Launch} {e : Env} {R : Room} {s : State} {args : Array Value} {below : List Frame} {len W : Nat} {Z : State} {a0 : Array Value} {h : Heap} (hZ : Z.Warmed39 s.vm) (hw : ∀ d ∈ words, d.before a0 Z = true) {kI : Nat} (wi : (Jvm.Cond.instantiable ST kI).before a0 Z = true)
    {x b : Addr} {k : ClassId} {zn z : Int32} {cs : List Int32} {dv v0 c0 : Value} (E : RoadKit.Exa Z h x ST) (V : RoadKit.Fld Z h x ST "value" "[B" v0) (C : RoadKit.Fld Z h x ST "coder" "B" c0) (K : RoadKit.Arv Z h b k .char zn (cs.map Value.int) dv) (S : RoadKit.Sta Z h ST "COMPACT_STRINGS" "Z" (.int z)) (hz : ¬ z = 0)
    (hlen : zn.toNatClampNeg = cs.length) (h0 : 0 < cs.length) (hbig : cs.length ≤ 536870912) (hall : ∀ c ∈ cs, ¬ 255 < c) (hfr : 4 ≤ R.frames) (hlo : W + 65 ≤ R.locals) :
    Back l R p e below s args New1.yN len W (fun P a => a = #[.ref x, .ref b] ∧ P.U.heap = h ∧ P.cells + 1 ≤ R.cells ∧ P.slots + cs.length ≤ R.slots)
      (fun P _ v B => ∃ L, QA Z x zn cs h v B.U.heap L ∧ B.locs = P.locs ++ L ∧ B.cells = P.cells + 1 ∧ B.slots = P.slots + cs.length) := by
  obtain ⟨A, K1, K2, K3, K4, K5, K6⟩ := K
  have e : A.slots.size = cs.length := K3.trans hlen
  have hat : ∀ (i : Nat) (hi : i < cs.length), A.slots[i]? = some (.int cs[i]) := fun i hi => by rw [K5 i (by omega)]; simp [List.getD_eq_getElem?_getD, hi]
  have hcv : ∀ (i : Nat) (hi : i < cs.length), cv A i = cs[i] := fun i hi => by unfold cv; rw [hat i hi]
  have hty : Typed .char A := fun i v hv => by
    have hi : i < A.slots.size := (Array.getElem?_eq_some_iff.mp hv).1
    have q := K5 i hi
    rw [hv] at q
    rw [Option.some.inj q]
    exact K6 i hi
  refine Back.mono (back hZ hw wi E V C K1 hty S hz (by omega) (by omega) (fun i hi => by rw [hcv i (by omega)]; exact hall _ (List.getElem_mem _)) hfr hlo) (fun P a hp => ⟨hp.1, hp.2.1, hp.2.2.1, by rw [e]; exact hp.2.2.2⟩) (fun P a v B hp hq => ?_)
  obtain ⟨L, ⟨q1, q2, q3, q4, q5, q6, q7, ⟨V', v1, v2, v3, v4, v5⟩, q9⟩, hl, hc, hs⟩ := hq
  refine ⟨L, ⟨q1, q2, q3, q4, q5, q6, q7, ⟨V'.cls, v3, V', v1, rfl, by rw [v4, e, hlen], K4, fun i hi => ?_, fun i hi => ?_⟩, q9⟩, hl, hc, by rw [hs, e]⟩
  · have hi' : i < cs.length := by omega
    rw [v5 i (by omega), hcv i hi']; simp [List.getD_eq_getElem?_getD, hi']
  · have hi' : i < cs.length := by omega
    simp only [List.getD_eq_getElem?_getD, List.getElem?_map, List.getElem?_eq_getElem hi', Option.map_some, Option.getD_some]
    exact fits_lo8 _
end StrChars.Road
namespace StrChars.Road
open Jvm Sem ClassFile Op Lib Jvm.Stand Jvm.Free Jvm.Free.XT
/-- WHAT COMES BACK, in the writer's own shape -/
def QV (Z : State) (x : Addr) (N : Int32) (bs : List Int32) (h : Heap) (n0 : Nat) (v : Option Value) (h' : Heap) (L : List Loc) : Prop := v = none ∧ RoadKit.Fr n0 L ∧ RoadKit.Keep h h' [x] ∧ RoadKit.Exa Z h' x ST ∧ RoadKit.Fld Z h' x ST "coder" "B" (.int 0) ∧
  ∃ (t : Addr) (kb : ClassId), n0 ≤ t ∧ h.size ≤ t ∧ ¬ t = x ∧ RoadKit.Fld Z h' x ST "value" "[B" (.ref t) ∧ RoadKit.Arv Z h' t kb .byte N (bs.map Value.int) (.int 0)
/-- **new String(chars) AT A CALL, FOR THE WRITER**: a char[] of n known ints, each 0 to 255 -/
theorem backV {p : Program} {l : Launch} {e : Env} {R : Room} {s : State} {args : Array Value} {below : List Frame} {len W : Nat} {Z : State} {a0 : Array Value} {h : Heap} (hZ : Z.Warmed39 s.vm) (hw : ∀ d ∈ words, d.before a0 Z = true) {kI : Nat} (wi : (Jvm.Cond.instantiable ST kI).before a0 Z = true)
    {x b : Addr} {kC : ClassId} {cs bs : List Int32} {d v0 c0 : Value} {z N : Int32} {n n0 : Nat} (hx0 : n0 ≤ x) (hh0 : n0 ≤ h.size) (E : RoadKit.Exa Z h x ST) (V : RoadKit.Fld Z h x ST "value" "[B" v0) (C : RoadKit.Fld Z h x ST "coder" "B" c0) (K : RoadKit.Arv Z h b kC .char N (cs.map Value.int) d) (S : RoadKit.Sta Z h ST "COMPACT_STRINGS" "Z" (.int z)) (hz : ¬ z = 0)
    (hn : cs.length = n) (hN : N = Int32.ofNat n) (l0 : 0 < n) (l2 : n ≤ 4000) (hp : ∀ c ∈ cs, ¬ c < 0 ∧ ¬ (255 : Int32) < c) (hb : bs = cs.map (fun c => c.toInt8.toInt32)) (hfr : 4 ≤ R.frames) (hlo : W + 65 ≤ R.locals) :
    Back l R p e below s args (⟨"java/lang/String", "<init>", "([C)V"⟩ : MethodName) len W (fun P a => a = #[.ref x, .ref b] ∧ P.U.heap = h ∧ P.cells + 1 ≤ R.cells ∧ P.slots + n ≤ R.slots)
      (fun P _ v B => ∃ L, QV Z x N bs h n0 v B.U.heap L ∧ B.locs = P.locs ++ L ∧ B.cells = P.cells + 1 ∧ B.slots = P.slots + n) := by
  subst hn hN hb
  refine Back.mono (backArv hZ hw wi E V C K S hz (n32 (by omega)) l0 (by omega) (fun c hc => (hp c hc).2) hfr hlo) (fun P a hp => hp) (fun P a v B hp hq => ?_)
  obtain ⟨L, ⟨q1, q2, q3, q4, q5, q6, q7, ⟨kb, v1, v2⟩, q9⟩, hl, hc, hs⟩ := hq
  exact ⟨L, ⟨q1, fun y hy => by rw [q2 y hy]; exact hx0, q3, q5, q7, h.size, kb, hh0, Nat.le_refl _, Nat.ne_of_gt E.lt, q6, by rw [List.map_map]; exact v2⟩, hl, hc, hs⟩
end StrChars.Road
namespace StrChars
open Jvm Sem ClassFile Op Lib Jvm.Stand Jvm.Free.XT Jvm.Free.ALB Jvm.Free.JM Jvm.Free
open Jvm.Lib.Cold (StaticIs)
def hi8 (x : Int32) : Int32 := lo8 (x >>> ((8 : Int32) &&& 31))
/-- what StringUTF16.getChar makes of two bytes -/
def pairCh (u v : Int32) : Int32 := (((u &&& 255) <<< ((0 : Int32) &&& 31)) ||| ((v &&& 255) <<< ((8 : Int32) &&& 31))).toUInt32.toUInt16.toUInt32.toInt32
theorem lo8_and (x : Int32) : (lo8 x &&& 255).toBitVec.toNat = x.toBitVec.toNat % 256 := by
  have h : (lo8 x).toBitVec = (x.toBitVec.signExtend 8).signExtend 32 := by rw [lo8, Int8.toBitVec_toInt32, Int32.toBitVec_toInt8]
  rw [Int32.toBitVec_and, BitVec.toNat_and, h]
  have e : ((x.toBitVec.signExtend 8).signExtend 32).toNat % 256 = x.toBitVec.toNat % 256 := by
    rw [BitVec.toNat_signExtend]
    have hlt := x.toBitVec.isLt
    simp only [BitVec.toNat_setWidth, BitVec.toNat_signExtend]
    split <;> split <;> omega
  rw [← e]
  exact Nat.and_two_pow_sub_one_eq_mod _ 8
theorem pair_says {c : Int32} (h0 : ¬ c < 0) (h1 : ¬ 65535 < c) : pairCh (lo8 c) (hi8 c) = c := by
  rw [Int32.lt_iff_toInt_lt] at h0 h1
  have e0 : (0 : Int32).toInt = 0 := rfl
  have e1 : (65535 : Int32).toInt = 65535 := rfl
  have hc : c.toInt = c.toBitVec.toNat := by
    have := c.toBitVec.isLt
    have e : c.toInt = c.toBitVec.toInt := rfl
    rw [e] at h0 h1
    rw [e]
    rw [BitVec.toInt_eq_toNat_cond] at h0 h1 ⊢
    split at h0 <;> split <;> omega
  have hn : c.toBitVec.toNat < 65536 := by omega
  have a1 := lo8_and c
  have a2 : (hi8 c &&& 255).toBitVec.toNat = c.toBitVec.toNat / 256 := by
    rw [hi8, lo8_and]
    have e : ((8 : Int32) &&& 31) = 8 := by decide
    rw [e, Int32.toBitVec_shiftRight]
    have e2 : ((8 : Int32).toBitVec.smod 32) = 8#32 := by decide
    rw [e2, BitVec.sshiftRight_eq', BitVec.toNat_sshiftRight_of_msb_false (by rw [BitVec.msb_eq_false_iff_two_mul_lt]; omega)]
    show c.toBitVec.toNat >>> 8 % 256 = _
    rw [Nat.shiftRight_eq_div_pow]
    omega
  unfold pairCh
  apply Int32.toBitVec_inj.mp
  apply BitVec.eq_of_toNat_eq
  have f0 : ((0 : Int32) &&& 31) = 0 := by decide
  have f8 : ((8 : Int32) &&& 31) = 8 := by decide
  rw [f0, f8]
  have g : (((lo8 c &&& 255) <<< (0 : Int32)) ||| ((hi8 c &&& 255) <<< (8 : Int32))).toBitVec.toNat = c.toBitVec.toNat := by
    rw [Int32.toBitVec_or, Int32.toBitVec_shiftLeft, Int32.toBitVec_shiftLeft]
    have s0 : ((0 : Int32).toBitVec.smod 32) = 0#32 := by decide
    have s8 : ((8 : Int32).toBitVec.smod 32) = 8#32 := by decide
    rw [s0, s8, BitVec.toNat_or]
    simp only [BitVec.shiftLeft_eq', BitVec.toNat_shiftLeft, a1, a2]
    show (c.toBitVec.toNat % 256) <<< 0 % 2 ^ 32 ||| (c.toBitVec.toNat / 256) <<< 8 % 2 ^ 32 = _
    rw [Nat.shiftLeft_zero, Nat.mod_eq_of_lt (show c.toBitVec.toNat % 256 < 2 ^ 32 by omega), Nat.mod_eq_of_lt (show (c.toBitVec.toNat / 256) <<< 8 < 2 ^ 32 by rw [Nat.shiftLeft_eq]; omega), Nat.or_comm, ← Nat.shiftLeft_add_eq_or_of_lt (by omega), Nat.shiftLeft_eq]
    omega
  show BitVec.toNat (((((lo8 c &&& 255) <<< (0 : Int32)) ||| ((hi8 c &&& 255) <<< (8 : Int32))).toBitVec.setWidth 16).setWidth 32) = _
  rw [BitVec.toNat_setWidth, BitVec.toNat_setWidth, g]
  omega
end StrChars
namespace StrChars
open Jvm Sem ClassFile Op Lib Jvm.Stand Jvm.Free.XT Jvm.Free.ALB Jvm.Free.JM Jvm.Free
open Jvm.Lib.Cold (StaticIs)
/-- the array's cell V codes the n chars f 0 .. f (n - 1) by the coder cd, as the JDK does: coder 1 just where some char is above 255 -/
def Cod (cd : Int32) (n : Nat) (f : Nat → Int32) (V : Cell) : Prop := (cd = 0 ∧ V.slots.size = n ∧ ∀ j, j < n → V.slots[j]? = some (.int (lo8 (f j))) ∧ ¬ 255 < f j) ∨ (cd = 1 ∧ V.slots.size = 2 * n ∧ (∀ j, j < n → V.slots[2 * j]? = some (.int (lo8 (f j))) ∧ V.slots[2 * j + 1]? = some (.int (hi8 (f j)))) ∧ ∃ j, j < n ∧ 255 < f j)
/-- **x is a String of the n chars f 0 .. f (n - 1)**, Latin-1 or UTF-16; its array at t has the cell V -/
def Txt (x t : Addr) (V : Cell) (cd : Int32) (n : Nat) (f : Nat → Int32) (U : State) : Prop := Exact "java/lang/String" x U ∧ Has x "java/lang/String" "value" "[B" (.ref t) U ∧ Has x "java/lang/String" "coder" "B" (.int cd) U ∧ XT.Arr .byte t V U ∧ Cod cd n f V ∧ ∀ j, j < n → ¬ f j < 0 ∧ ¬ 65535 < f j
theorem Txt.mv {x t : Addr} {V : Cell} {cd : Int32} {n : Nat} {f : Nat → Int32} {U U' : State} (h : Txt x t V cd n f U) (hal : U.vm.Alike U'.vm) (hh : U'.heap = U.heap) : Txt x t V cd n f U' := ⟨h.1.mv hal hh, h.2.1.mv hal hh, h.2.2.1.mv hal hh, h.2.2.2.1.mv hal hh, h.2.2.2.2⟩
end StrChars
namespace StrChars.Road
open Jvm Sem ClassFile Op Lib Jvm.Stand Jvm.Free Jvm.Free.XT
open Jvm.Lib.Cold (StaticIs)
theorem consq {a : Array Value} {s : State} {c : Jvm.Cond} {L : List Jvm.Cond} (h0 : c.before a s = true) (h : ∀ w ∈ L, w.before a s = true) : ∀ w ∈ c :: L, w.before a s = true := fun w hw => (List.mem_cons.mp hw).elim (fun e => e ▸ h0) (h w)
/-- the bytes of the chars cs, low before high -/
def wideBytes : List Int32 → List Value
  | [] => []
  | c :: cs => .int (lo8 c) :: .int (hi8 c) :: wideBytes cs
theorem wide_lo (d : Value) : ∀ (cs : List Int32) (j : Nat), j < cs.length → (wideBytes cs).getD (2 * j) d = .int (lo8 (cs.getD j 0))
  | [], j, h => absurd h (Nat.not_lt_zero j)
  | c :: cs, 0, _ => rfl
  | c :: cs, j + 1, h => by
    have q := wide_lo d cs j (by simpa using h)
    rw [show 2 * (j + 1) = 2 * j + 1 + 1 from by omega]
    simpa [wideBytes] using q
theorem wide_hi (d : Value) : ∀ (cs : List Int32) (j : Nat), j < cs.length → (wideBytes cs).getD (2 * j + 1) d = .int (hi8 (cs.getD j 0))
  | [], j, h => absurd h (Nat.not_lt_zero j)
  | c :: cs, 0, _ => rfl
  | c :: cs, j + 1, h => by
    have q := wide_hi d cs j (by simpa using h)
    rw [show 2 * (j + 1) + 1 = 2 * j + 1 + 1 + 1 from by omega]
    simpa [wideBytes] using q
theorem low_at (d : Value) (cs : List Int32) (j : Nat) (h : j < cs.length) : (cs.map fun c => Value.int (lo8 c)).getD j d = .int (lo8 (cs.getD j 0)) := by
  simp [List.getD_eq_getElem?_getD, h]
/-- an array of N2 bytes vs codes the chars cs by the coder cd -/
def CodA (cs : List Int32) (cd N2 : Int32) (vs : List Value) : Prop := (cd = 0 ∧ N2 = Int32.ofNat cs.length ∧ vs = (cs.map fun c => Value.int (lo8 c)) ∧ ∀ c ∈ cs, ¬ 255 < c) ∨ (cd = 1 ∧ N2 = Int32.ofNat (2 * cs.length) ∧ vs = wideBytes cs ∧ ∃ c ∈ cs, 255 < c)
theorem CodA.cod {cs : List Int32} {cd N2 : Int32} {vs : List Value} {V : Cell} (h : CodA cs cd N2 vs) (hn : 2 * cs.length < 2 ^ 31) (hs : V.slots.size = N2.toNatClampNeg) (hv : RoadKit.Has V vs (.int 0)) : Cod cd cs.length (fun j => cs.getD j 0) V := by
  rcases h with ⟨rfl, rfl, rfl, h⟩ | ⟨rfl, rfl, rfl, c, hc, hw⟩
  · rw [n32 (by omega)] at hs
    exact Or.inl ⟨rfl, hs, fun j hj => ⟨by rw [hv j (by omega), low_at _ _ _ hj], by
      have e : cs.getD j 0 = cs[j] := by simp [List.getD_eq_getElem?_getD, hj]
      show ¬ 255 < cs.getD j 0
      rw [e]; exact h _ (List.getElem_mem _)⟩⟩
  · rw [n32 (by omega)] at hs
    obtain ⟨j, hj, rfl⟩ := List.getElem_of_mem hc
    exact Or.inr ⟨rfl, hs, fun j hj => ⟨by rw [hv _ (by omega), wide_lo _ _ _ hj], by rw [hv _ (by omega), wide_hi _ _ _ hj]⟩, j, hj, by
      have e : cs.getD j 0 = cs[j] := by simp [List.getD_eq_getElem?_getD, hj]
      show 255 < cs.getD j 0
      rw [e]; exact hw⟩
/-- an object of exactly java/lang/String, its two fields found: as the laws ask it -/
theorem strObj {Z U : State} {a0 : Array Value} {kI : Nat} (wi : (Jvm.Cond.instantiable ST kI).before a0 Z = true) (al : Z.vm.Alike U.vm) {x : Addr} {v0 c0 : Value} (E : RoadKit.Exa Z U.heap x ST) (V : RoadKit.Fld Z U.heap x ST "value" "[B" v0) (C : RoadKit.Fld Z U.heap x ST "coder" "B" c0) :
    ∃ (D : Cell) (fV fC : Field), Blank ST x D U ∧ Found ST "value" "[B" fV U ∧ Found ST "coder" "B" fC U ∧ D.slots[fV.slot]? = some v0 ∧ D.slots[fC.slot]? = some c0 ∧ RoadKit.slotOf Z ST "value" "[B" = fV.slot ∧ RoadKit.slotOf Z ST "coder" "B" = fC.slot := by
  obtain ⟨D, cfV, kV, iV, fV, hD, gV, stV, knV, obV, asV, slV⟩ := V
  obtain ⟨D', cfC, kC, iC, fC, hD', gC, stC, -, -, asC, slC⟩ := C
  cases hD.symm.trans hD'
  obtain ⟨D2, kD, e1, e2, e3, e4, e5⟩ := E
  cases hD.symm.trans e1
  obtain ⟨c2, k2, i1, i2, i3, -⟩ := Cond.instantiable_spec wi
  cases e2.symm.trans i1
  cases e3.symm.trans i2
  obtain ⟨kU, u1, u2⟩ := al.2.2 _ _ e3
  exact ⟨D, fV, fC, ⟨hD, ⟨knV, fun q hq => by rw [hq] at obV; cases obV⟩, by rw [al.findClass]; exact e2, kU, u1, by rw [u2]; exact i3, by rw [u2]; exact e5 i3⟩, ⟨SBG.found_only al ⟨cfV, kV, iV, gV⟩, stV⟩, ⟨SBG.found_only al ⟨cfC, kC, iC, gC⟩, stC⟩, slV, slC, by simp [RoadKit.slotOf, gV], by simp [RoadKit.slotOf, gC]⟩
theorem sta_is {Z U : State} (al : Z.vm.Alike U.vm) {C n d : String} {v : Value} (S : RoadKit.Sta Z U.heap C n d v) : StaticIs U C n d v := by
  obtain ⟨cfS, iS, kS, fS, st, cS, t1, t2, t3, t4, t5, t6, t7⟩ := S
  exact StaticIs.there (s := { Z with heap := U.heap }) ⟨cfS, iS, kS, fS, st, cS, t1, t2, t3, t4, t5, (fun q => by rw [q] at t6; cases t6), t7⟩ al rfl
end StrChars.Road
namespace StrChars
open Jvm Sem ClassFile Op Lib Jvm.Stand Jvm.Free.XT Jvm.Free.ALB Jvm.Free.JM Jvm.Free
open Jvm.Lib.Cold (StaticIs)
/-- what place i of a byte[]'s cell holds -/
def yv (A : Cell) (i : Nat) : Int32 := match A.slots[i]? with | some (.int x) => x | _ => 0
theorem yv_get {a : Addr} {A : Cell} {U : State} (h : XT.Arr .byte a A U) (ht : Typed .byte A) {i : Nat} (hi : i < A.slots.size) : A.slots[i]? = some (.int (yv A i)) := by
  have e := Array.getElem?_eq_getElem hi
  have f := ht i _ e
  unfold yv; rw [e]
  generalize A.slots[i] = v at f
  cases v <;> simp [fits] at f ⊢
/-- the two arrays are equal, place for place -/
def EqC (A B : Cell) : Prop := A.slots.size = B.slots.size ∧ ∀ i, i < A.slots.size → yv A i = yv B i
/-- a boolean that says whether p -/
def Says01 (q : Prop) (r : Option Value) (s u : State) : Prop := ∃ v : Int32, r = some (.int v) ∧ u.heap = s.heap ∧ ((v = 1 ∧ q) ∨ (v = 0 ∧ ¬ q))
theorem Says01.mv {q : Prop} : ∀ r (U U' V V' : State), U'.heap = U.heap → V.vm.Alike V'.vm → V'.heap = V.heap → Says01 q r U V → Says01 q r U' V' :=
  fun r U U' V V' h1 _ h2 ⟨v, a, b, c⟩ => ⟨v, a, by rw [h1, h2]; exact b, c⟩
namespace LEq
def yN : MethodName := ⟨"java/lang/StringLatin1", "equals", "([B[B)Z"⟩
abbrev yB : ByteArray := jdk_43_method_13_code
theorem d0 : decode yB 0 = .ok (.aload_n 0, 1) := by decide +kernel
theorem d1 : decode yB 1 = .ok (.arraylength, 1) := by decide +kernel
theorem d2 : decode yB 2 = .ok (.aload_n 1, 1) := by decide +kernel
theorem d3 : decode yB 3 = .ok (.arraylength, 1) := by decide +kernel
theorem d4 : decode yB 4 = .ok (.if_icmp (.ne) 30, 3) := by decide +kernel
theorem d7 : decode yB 7 = .ok (.iconst 0, 1) := by decide +kernel
theorem d8 : decode yB 8 = .ok (.istore_n 2, 1) := by decide +kernel
theorem d9 : decode yB 9 = .ok (.iload_n 2, 1) := by decide +kernel
theorem d10 : decode yB 10 = .ok (.aload_n 0, 1) := by decide +kernel
theorem d11 : decode yB 11 = .ok (.arraylength, 1) := by decide +kernel
theorem d12 : decode yB 12 = .ok (.if_icmp (.ge) 20, 3) := by decide +kernel
theorem d15 : decode yB 15 = .ok (.aload_n 0, 1) := by decide +kernel
theorem d16 : decode yB 16 = .ok (.iload_n 2, 1) := by decide +kernel
theorem d17 : decode yB 17 = .ok (.baload, 1) := by decide +kernel
theorem d18 : decode yB 18 = .ok (.aload_n 1, 1) := by decide +kernel
theorem d19 : decode yB 19 = .ok (.iload_n 2, 1) := by decide +kernel
theorem d20 : decode yB 20 = .ok (.baload, 1) := by decide +kernel
theorem d21 : decode yB 21 = .ok (.if_icmp (.eq) 5, 3) := by decide +kernel
theorem d24 : decode yB 24 = .ok (.iconst 0, 1) := by decide +kernel
theorem d25 : decode yB 25 = .ok (.ireturn, 1) := by decide +kernel
theorem d26 : decode yB 26 = .ok (.iinc 2 1, 3) := by decide +kernel
theorem d29 : decode yB 29 = .ok (.goto (-20), 3) := by decide +kernel
theorem d32 : decode yB 32 = .ok (.iconst 1, 1) := by decide +kernel
theorem d33 : decode yB 33 = .ok (.ireturn, 1) := by decide +kernel
theorem d34 : decode yB 34 = .ok (.iconst 0, 1) := by decide +kernel
theorem d35 : decode yB 35 = .ok (.ireturn, 1) := by decide +kernel
def site : List Cond := []
def tab : Cond := tabOf yN yB 3 (some .boolean) site
def P (a : Addr) (A : Cell) (b : Addr) (B : Cell) (args : Array Value) (s : State) : Prop := args = #[.ref a, .ref b] ∧ XT.Arr .byte a A s ∧ Typed .byte A ∧ XT.Arr .byte b B s ∧ Typed .byte B
/-- whether two byte[] are equal, place for place -/
theorem law (l : Launch) (a : Addr) (A : Cell) (b : Addr) (B : Cell) : Law l yN 2 2 0 0 yB 3 (some .boolean) site (P a A b B) (Says01 (EqC A B)) [] 0 0 := by
  refine Law.of_walk (plainFor_of_name (by decide +kernel)) (by decide +kernel) (by decide +kernel) (by decide) (fun _ _ h => by rw [h.1]; rfl) (fun _ U U' hal hh h => ⟨h.1, h.2.1.mv hal hh, h.2.2.1, h.2.2.2.1.mv hal hh, h.2.2.2.2⟩) (fun r U U' V V' h1 hal h2 h => Says01.mv r U U' V V' h1 hal h2 h) ?_
  intro p e s m args below meth c s₁ X0 hexec hbytes hml hret hlk hnm hown hh0 W hP
  obtain ⟨rfl, hA, tA, hB, tB⟩ := hP
  have a31 := hA.2.2.2
  have b31 := hB.2.2.2
  have hA0 := hA.mv X0.warmed.alike hh0
  have hB0 := hB.mv X0.warmed.alike hh0
  have c1 : Steps p.tables e below (s₁.setTop (entryFrame m #[.ref a, .ref b] 3)) (s₁.setTop (mkF m 0 #[.val (.ref a), .val (.ref b), .unset] [])) := entry rfl
  have c2 : Steps p.tables e below (s₁.setTop (entryFrame m #[.ref a, .ref b] 3)) (s₁.setTop (mkF m 4 #[.val (.ref a), .val (.ref b), .unset] [.int (Int32.ofNat B.slots.size), .int (Int32.ofNat A.slots.size)])) := c1.trans (by
    refine XS.aloadN X0.here hexec rfl (hb hbytes d0) rfl rfl ?_
    refine X0.alen hexec hA0 rfl rfl (hb hbytes d1) ?_
    refine XS.aloadN X0.here hexec rfl (hb hbytes d2) rfl rfl ?_
    refine X0.alen hexec hB0 rfl rfl (hb hbytes d3) ?_
    exact Steps.refl _)
  by_cases hs : A.slots.size = B.slots.size
  · have c3 : Steps p.tables e below (s₁.setTop (entryFrame m #[.ref a, .ref b] 3)) (s₁.setTop (mkF m 9 #[.val (.ref a), .val (.ref b), .val (.int 0)] [])) := c2.trans (by
      refine XS.icmpNo X0.here hexec rfl (hb hbytes d4) rfl (ii_ne_f (by rw [hs])) ?_
      refine iconstV X0.here hexec rfl 0 (hb hbytes d7) (by decide) ?_
      refine XS.istoreN X0.here hexec rfl (hb hbytes d8) rfl rfl ?_
      exact Steps.refl _)
    have loop : ∀ (r i : Nat), i + r = A.slots.size → (∀ j, j < i → yv A j = yv B j) → Steps p.tables e below (s₁.setTop (entryFrame m #[.ref a, .ref b] 3)) (s₁.setTop (mkF m 9 #[.val (.ref a), .val (.ref b), .val (.int (Int32.ofNat i))] [])) → ∃ (pc : Nat) (Ls : Array Slot) (v : Int32), (pc = 25 ∨ pc = 33) ∧ ((v = 1 ∧ EqC A B) ∨ (v = 0 ∧ ¬ EqC A B)) ∧ Steps p.tables e below (s₁.setTop (entryFrame m #[.ref a, .ref b] 3)) (s₁.setTop (mkF m pc Ls [.int v])) := by
      intro r
      induction r with
      | zero =>
        intro i hi he cl
        exact ⟨33, _, 1, Or.inr rfl, Or.inl ⟨rfl, hs, fun j hj => he j (by omega)⟩, cl.trans (by
          refine XS.iloadN X0.here hexec rfl (hb hbytes d9) rfl ?_
          refine XS.aloadN X0.here hexec rfl (hb hbytes d10) rfl rfl ?_
          refine X0.alen hexec hA0 rfl rfl (hb hbytes d11) ?_
          refine XS.icmpYes X0.here hexec rfl (pc0 := 12) rfl (hb hbytes d12) rfl (ii_ge_t (nlt32 (by omega) (by omega))) (by decide) rfl ?_
          refine iconstV X0.here hexec rfl 1 (hb hbytes d32) (by decide) ?_
          exact Steps.refl _)⟩
      | succ r ih =>
        intro i hi he cl
        have c4 : Steps p.tables e below (s₁.setTop (entryFrame m #[.ref a, .ref b] 3)) (s₁.setTop (mkF m 21 #[.val (.ref a), .val (.ref b), .val (.int (Int32.ofNat i))] [.int (yv B i), .int (yv A i)])) := cl.trans (by
          refine XS.iloadN X0.here hexec rfl (hb hbytes d9) rfl ?_
          refine XS.aloadN X0.here hexec rfl (hb hbytes d10) rfl rfl ?_
          refine X0.alen hexec hA0 rfl rfl (hb hbytes d11) ?_
          refine XS.icmpNo X0.here hexec rfl (hb hbytes d12) rfl (ii_ge_f (lt32 (by omega) (by omega))) ?_
          refine XS.aloadN X0.here hexec rfl (hb hbytes d15) rfl rfl ?_
          refine XS.iloadN X0.here hexec rfl (hb hbytes d16) rfl ?_
          refine X0.aget hexec hA0 rfl (yv_get hA tA (i := i) (by omega)) rfl rfl (hb hbytes d17) ?_
          refine XS.aloadN X0.here hexec rfl (hb hbytes d18) rfl rfl ?_
          refine XS.iloadN X0.here hexec rfl (hb hbytes d19) rfl ?_
          refine X0.aget hexec hB0 rfl (yv_get hB tB (i := i) (by omega)) rfl rfl (hb hbytes d20) ?_
          exact Steps.refl _)
        by_cases hv : yv A i = yv B i
        · have c5 : Steps p.tables e below (s₁.setTop (entryFrame m #[.ref a, .ref b] 3)) (s₁.setTop (mkF m 9 #[.val (.ref a), .val (.ref b), .val (.int (Int32.ofNat i + 1))] [])) := c4.trans (by
            refine XS.icmpYes X0.here hexec rfl (pc0 := 21) rfl (hb hbytes d21) rfl (ii_eq_t hv) (by decide) rfl ?_
            refine iincV X0.here hexec rfl 1 (hb hbytes d26) (by decide) rfl rfl ?_
            refine XS.goto X0.here hexec rfl (pc0 := 29) rfl (hb hbytes d29) (by decide) rfl ?_
            exact Steps.refl _)
          rw [succ32] at c5
          exact ih (i + 1) (by omega) (fun j hj => by
            by_cases e : j = i
            · rw [e]; exact hv
            · exact he j (by omega)) c5
        · exact ⟨25, _, 0, Or.inl rfl, Or.inr ⟨rfl, fun q => hv (q.2 i (by omega))⟩, c4.trans (by
            refine XS.icmpNo X0.here hexec rfl (hb hbytes d21) rfl (ii_eq_f hv) ?_
            refine iconstV X0.here hexec rfl 0 (hb hbytes d24) (by decide) ?_
            exact Steps.refl _)⟩
    obtain ⟨pc, Ls, v, hpc, hv, cz⟩ := loop A.slots.size 0 (by omega) (fun j hj => absurd hj (Nat.not_lt_zero j)) c3
    have nv : narrow .boolean (.int v) = .int v := by rcases hv with ⟨rfl, -⟩ | ⟨rfl, -⟩ <;> rfl
    rcases hpc with rfl | rfl
    · exact ⟨s₁, some (.int v), _, _, _, X0, rfl, rfl, rfl, (fun h => by cases h), ⟨v, rfl, hh0, hv⟩, fun fs hl => cz.trans (X0.ireturnOut hexec hret nv (Or.inr (Or.inl rfl)) (hb hbytes d25) hl)⟩
    · exact ⟨s₁, some (.int v), _, _, _, X0, rfl, rfl, rfl, (fun h => by cases h), ⟨v, rfl, hh0, hv⟩, fun fs hl => cz.trans (X0.ireturnOut hexec hret nv (Or.inr (Or.inl rfl)) (hb hbytes d33) hl)⟩
  · have c3 : Steps p.tables e below (s₁.setTop (entryFrame m #[.ref a, .ref b] 3)) (s₁.setTop (mkF m 35 #[.val (.ref a), .val (.ref b), .unset] [.int 0])) := c2.trans (by
      refine XS.icmpYes X0.here hexec rfl (pc0 := 4) rfl (hb hbytes d4) rfl (ii_ne_t (ne32 a31 b31 hs)) (by decide) rfl ?_
      refine iconstV X0.here hexec rfl 0 (hb hbytes d34) (by decide) ?_
      exact Steps.refl _)
    exact ⟨s₁, some (.int 0), _, _, _, X0, rfl, rfl, rfl, (fun h => by cases h), ⟨0, rfl, hh0, Or.inr ⟨rfl, fun q => hs q.1⟩⟩, fun fs hl => c3.trans (X0.ireturnOut hexec hret rfl (Or.inr (Or.inl rfl)) (hb hbytes d35) hl)⟩
end LEq
theorem Cod.ty {cd : Int32} {n : Nat} {f : Nat → Int32} {V : Cell} (h : Cod cd n f V) : Typed .byte V := fun i v hv => by
  have hi : i < V.slots.size := (Array.getElem?_eq_some_iff.mp hv).1
  rcases h with ⟨-, k1, k2⟩ | ⟨-, k1, k2, -⟩
  · rw [(k2 i (by omega)).1] at hv; cases hv; exact fits_lo8 _
  · rcases Nat.mod_two_eq_zero_or_one i with e | e
    · obtain ⟨j, rfl⟩ : ∃ j, i = 2 * j := ⟨i / 2, by omega⟩
      rw [(k2 j (by omega)).1] at hv; cases hv; exact fits_lo8 _
    · obtain ⟨j, rfl⟩ : ∃ j, i = 2 * j + 1 := ⟨i / 2, by omega⟩
      rw [(k2 j (by omega)).2] at hv; cases hv; exact fits_lo8 _
/-- the same text -/
def SameT (n : Nat) (f : Nat → Int32) (k : Nat) (g : Nat → Int32) : Prop := n = k ∧ ∀ j, j < n → f j = g j
theorem lo8_inj {x y : Int32} (h0 : ¬ x < 0) (h1 : ¬ 255 < x) (k0 : ¬ y < 0) (k1 : ¬ 255 < y) (h : lo8 x = lo8 y) : x = y := by
  rw [← lo8_mask h0 h1, ← lo8_mask k0 k1, h]
/-- arrays coded by one coder are equal just where the texts are -/
theorem Cod.eqv {cd : Int32} {n k : Nat} {f g : Nat → Int32} {V V' : Cell} (h : Cod cd n f V) (h' : Cod cd k g V') (hf : ∀ j, j < n → ¬ f j < 0 ∧ ¬ 65535 < f j) (hg : ∀ j, j < k → ¬ g j < 0 ∧ ¬ 65535 < g j) : EqC V V' ↔ SameT n f k g := by
  have yvv : ∀ {W : Cell} {i : Nat} {x : Int32}, W.slots[i]? = some (.int x) → yv W i = x := fun q => by unfold yv; rw [q]
  rcases h with ⟨rfl, k1, k2⟩ | ⟨rfl, k1, k2, -⟩
  · rcases h' with ⟨-, m1, m2⟩ | ⟨e, -⟩
    · constructor
      · rintro ⟨e1, e2⟩
        refine ⟨by omega, fun j hj => ?_⟩
        have q := e2 j (by omega)
        rw [yvv (k2 j hj).1, yvv (m2 j (by omega)).1] at q
        exact lo8_inj (hf j hj).1 (k2 j hj).2 (hg j (by omega)).1 (m2 j (by omega)).2 q
      · rintro ⟨rfl, e2⟩
        refine ⟨by omega, fun j hj => ?_⟩
        rw [yvv (k2 j (by omega)).1, yvv (m2 j (by omega)).1, e2 j (by omega)]
    · exact absurd e (by decide)
  · rcases h' with ⟨e, -⟩ | ⟨-, m1, m2, -⟩
    · exact absurd e (by decide)
    · constructor
      · rintro ⟨e1, e2⟩
        refine ⟨by omega, fun j hj => ?_⟩
        have q1 := e2 (2 * j) (by omega)
        have q2 := e2 (2 * j + 1) (by omega)
        rw [yvv (k2 j hj).1, yvv (m2 j (by omega)).1] at q1
        rw [yvv (k2 j hj).2, yvv (m2 j (by omega)).2] at q2
        rw [← pair_says (hf j hj).1 (hf j hj).2, ← pair_says (hg j (by omega)).1 (hg j (by omega)).2, q1, q2]
      · rintro ⟨rfl, e2⟩
        refine ⟨by omega, fun i hi => ?_⟩
        rcases Nat.mod_two_eq_zero_or_one i with e | e
        · obtain ⟨j, rfl⟩ : ∃ j, i = 2 * j := ⟨i / 2, by omega⟩
          rw [yvv (k2 j (by omega)).1, yvv (m2 j (by omega)).1, e2 j (by omega)]
        · obtain ⟨j, rfl⟩ : ∃ j, i = 2 * j + 1 := ⟨i / 2, by omega⟩
          rw [yvv (k2 j (by omega)).2, yvv (m2 j (by omega)).2, e2 j (by omega)]
/-- two codings differ: so do the texts -/
theorem Cod.dif {cd cd' : Int32} {n k : Nat} {f g : Nat → Int32} {V V' : Cell} (h : Cod cd n f V) (h' : Cod cd' k g V') (hne : ¬ cd = cd') : ¬ SameT n f k g := by
  rintro ⟨rfl, e⟩
  rcases h with ⟨rfl, -, k2⟩ | ⟨rfl, -, -, j, hj, hw⟩
  · rcases h' with ⟨rfl, -⟩ | ⟨-, -, -, j, hj, hw⟩
    · exact hne rfl
    · exact (k2 j hj).2 (by rw [e j hj]; exact hw)
  · rcases h' with ⟨-, -, m2⟩ | ⟨rfl, -⟩
    · exact (m2 j hj).2 (by rw [← e j hj]; exact hw)
    · exact hne rfl
/-- an object of exactly C is an instance of C -/
theorem cinst {p : Program} {l : Launch} {e : Env} {R : Room} {s : State} {m : MethodId} {args : Array Value} {below : List Frame} {meth : Method} {c : Code} {T : State} {locs : List Loc} {cells slots : Nat} (X : Stand p l e R s m args below meth c T locs cells slots) (hexec : p.tables.exec = Jvm.exec) {own C : String} {index : Nat} (hown : s.vm.findClass own = some m.cls) (hlink : (Cond.classLink own index C).before args s = true) {a : Addr} (hE : Exact C a T)
    {g : JFrame} (hg : g.method = m) {rest : List Value} (hstack : g.stack = .ref a :: rest) (hdg : decode c.code g.pc = .ok (.instanceof index, 3)) :
    ∃ T', Stand p l e R s m args below meth c T' locs cells slots ∧ T'.heap = T.heap ∧ ∀ target, Steps p.tables e below (T'.setTop { g with pc := g.pc + 3, stack := .int 1 :: rest }) target → Steps p.tables e below (T.setTop g) target := by
  obtain ⟨cB, h1, D, h2, h3, h4⟩ := hE
  have h1' : s.vm.findClass C = some cB := by rw [← X.warmed.alike.findClass]; exact h1
  obtain ⟨vm', X', st⟩ := X.instanceofYes hexec hown hlink h2 h4 h1' (by rw [h3]; exact Jvm.Free.SB.assignable_self _ _) hg hstack hdg
  exact ⟨_, X', rfl, st⟩
theorem cself {p : Program} {l : Launch} {e : Env} {R : Room} {s : State} {m : MethodId} {args : Array Value} {below : List Frame} {meth : Method} {c : Code} {T : State} {locs : List Loc} {cells slots : Nat} (X : Stand p l e R s m args below meth c T locs cells slots) (hexec : p.tables.exec = Jvm.exec) {own C : String} {index : Nat} (hown : s.vm.findClass own = some m.cls) (hlink : (Cond.classLink own index C).before args s = true) {a : Addr} (hE : Exact C a T)
    {g : JFrame} (hg : g.method = m) {rest : List Value} (hstack : g.stack = .ref a :: rest) (hdg : decode c.code g.pc = .ok (.checkcast index, 3)) :
    ∃ T', Stand p l e R s m args below meth c T' locs cells slots ∧ T'.heap = T.heap ∧ ∀ target, Steps p.tables e below (T'.setTop { g with pc := g.pc + 3, stack := .ref a :: rest }) target → Steps p.tables e below (T.setTop g) target := by
  obtain ⟨cB, h1, D, h2, h3, h4⟩ := hE
  have h1' : s.vm.findClass C = some cB := by rw [← X.warmed.alike.findClass]; exact h1
  obtain ⟨vm', X', st⟩ := X.checkcastYes hexec hown hlink h2 h4 h1' (by rw [h3]; exact Jvm.Free.SB.assignable_self _ _) hg hstack hdg
  exact ⟨_, X', rfl, fun t h => st t (by rw [← hstack] at h; exact h)⟩
namespace SEq
def yN : MethodName := ⟨"java/lang/String", "equals", "(Ljava/lang/Object;)Z"⟩
abbrev yB : ByteArray := jdk_42_method_66_code
theorem d0 : decode yB 0 = .ok (.aload_n 0, 1) := by decide +kernel
theorem d1 : decode yB 1 = .ok (.aload_n 1, 1) := by decide +kernel
theorem d2 : decode yB 2 = .ok (.if_acmp (.ne) 5, 3) := by decide +kernel
theorem d5 : decode yB 5 = .ok (.iconst 1, 1) := by decide +kernel
theorem d6 : decode yB 6 = .ok (.ireturn, 1) := by decide +kernel
theorem d7 : decode yB 7 = .ok (.aload_n 1, 1) := by decide +kernel
theorem d8 : decode yB 8 = .ok (.instanceof 10, 3) := by decide +kernel
theorem d11 : decode yB 11 = .ok (.ifCond (.eq) 43, 3) := by decide +kernel
theorem d14 : decode yB 14 = .ok (.aload_n 1, 1) := by decide +kernel
theorem d15 : decode yB 15 = .ok (.checkcast 10, 3) := by decide +kernel
theorem d18 : decode yB 18 = .ok (.astore_n 2, 1) := by decide +kernel
theorem d19 : decode yB 19 = .ok (.getstatic 38, 3) := by decide +kernel
theorem d22 : decode yB 22 = .ok (.ifCond (.eq) 14, 3) := by decide +kernel
theorem d25 : decode yB 25 = .ok (.aload_n 0, 1) := by decide +kernel
theorem d26 : decode yB 26 = .ok (.getfield 15, 3) := by decide +kernel
theorem d29 : decode yB 29 = .ok (.aload_n 2, 1) := by decide +kernel
theorem d30 : decode yB 30 = .ok (.getfield 15, 3) := by decide +kernel
theorem d33 : decode yB 33 = .ok (.if_icmp (.ne) 21, 3) := by decide +kernel
theorem d36 : decode yB 36 = .ok (.aload_n 0, 1) := by decide +kernel
theorem d37 : decode yB 37 = .ok (.getfield 9, 3) := by decide +kernel
theorem d40 : decode yB 40 = .ok (.aload_n 2, 1) := by decide +kernel
theorem d41 : decode yB 41 = .ok (.getfield 9, 3) := by decide +kernel
theorem d44 : decode yB 44 = .ok (.invokestatic 541, 3) := by decide +kernel
theorem d47 : decode yB 47 = .ok (.ifCond (.eq) 7, 3) := by decide +kernel
theorem d50 : decode yB 50 = .ok (.iconst 1, 1) := by decide +kernel
theorem d51 : decode yB 51 = .ok (.goto 4, 3) := by decide +kernel
theorem d54 : decode yB 54 = .ok (.iconst 0, 1) := by decide +kernel
theorem d55 : decode yB 55 = .ok (.ireturn, 1) := by decide +kernel
def site : List Cond := [.classLink "java/lang/String" 10 "java/lang/String", .fieldLink "java/lang/String" 38 "java/lang/String" "COMPACT_STRINGS" "Z", .fieldLink "java/lang/String" 15 "java/lang/String" "coder" "B", .fieldLink "java/lang/String" 9 "java/lang/String" "value" "[B", LEq.tab] ++ staticW "java/lang/String" 541 LEq.yN
def tab : Cond := tabOf yN yB 3 (some .boolean) site
def P (x t : Addr) (V : Cell) (cd : Int32) (n : Nat) (f : Nat → Int32) (y t' : Addr) (V' : Cell) (cd' : Int32) (k : Nat) (g : Nat → Int32) (z : Int32) (args : Array Value) (s : State) : Prop := args = #[.ref x, .ref y] ∧ Txt x t V cd n f s ∧ Txt y t' V' cd' k g s ∧ StaticIs s "java/lang/String" "COMPACT_STRINGS" "Z" (.int z) ∧ ¬ z = 0
/-- equals(Object) of two Strings: whether the texts are the same -/
theorem law (l : Launch) (x t : Addr) (V : Cell) (cd : Int32) (n : Nat) (f : Nat → Int32) (y t' : Addr) (V' : Cell) (cd' : Int32) (k : Nat) (g : Nat → Int32) (z : Int32) : Law l yN 2 1 1 14 yB 3 (some .boolean) site (P x t V cd n f y t' V' cd' k g z) (Says01 (SameT n f k g)) [] 0 0 := by
  refine Law.of_walk (plainFor_of_name (by decide +kernel)) (by decide +kernel) (by decide +kernel) (by decide) (fun _ _ h => by rw [h.1]; rfl) (fun _ U U' hal hh h => ⟨h.1, h.2.1.mv hal hh, h.2.2.1.mv hal hh, h.2.2.2.1.there hal hh, h.2.2.2.2⟩) (fun r U U' V V' h1 hal h2 h => Says01.mv r U U' V V' h1 hal h2 h) ?_
  intro p e s m args below meth c s₁ X0 hexec hbytes hml hret hlk hnm hown hh0 W hP
  obtain ⟨rfl, hx, hy, s1, hz⟩ := hP
  have c1 : Steps p.tables e below (s₁.setTop (entryFrame m #[.ref x, .ref y] 3)) (s₁.setTop (mkF m 2 #[.val (.ref x), .val (.ref y), .unset] [.ref y, .ref x])) := Steps.trans (entry rfl) (by
    show Steps p.tables e below (s₁.setTop (mkF m 0 #[.val (.ref x), .val (.ref y), .unset] [])) _
    refine XS.aloadN X0.here hexec rfl (hb hbytes d0) rfl rfl ?_
    refine XS.aloadN X0.here hexec rfl (hb hbytes d1) rfl rfl ?_
    exact Steps.refl _)
  by_cases hxy : x = y
  · have c2 : Steps p.tables e below (s₁.setTop (entryFrame m #[.ref x, .ref y] 3)) (s₁.setTop (mkF m 6 #[.val (.ref x), .val (.ref y), .unset] [.int 1])) := c1.trans (by
      refine acmpNo X0.here hexec rfl (hb hbytes d2) rfl rfl rfl (by simp [acmp, hxy]) ?_
      refine iconstV X0.here hexec rfl 1 (hb hbytes d5) (by decide) ?_
      exact Steps.refl _)
    subst hxy
    have ec : cd = cd' := by
      obtain ⟨D, fd, a1, a2, a3⟩ := hx.2.2.1
      obtain ⟨D', fd', b1, b2, b3⟩ := hy.2.2.1
      cases a1.symm.trans b1
      obtain ⟨q1, q2, q3, q4⟩ := a2.1
      obtain ⟨r1, r2, r3, r4⟩ := b2.1
      cases q4.symm.trans r4
      cases a3.symm.trans b3; rfl
    have et : t = t' := by
      obtain ⟨D, fd, a1, a2, a3⟩ := hx.2.1
      obtain ⟨D', fd', b1, b2, b3⟩ := hy.2.1
      cases a1.symm.trans b1
      obtain ⟨q1, q2, q3, q4⟩ := a2.1
      obtain ⟨r1, r2, r3, r4⟩ := b2.1
      cases q4.symm.trans r4
      cases a3.symm.trans b3; rfl
    subst ec et
    have ev : V = V' := by cases hx.2.2.2.1.1.symm.trans hy.2.2.2.1.1; rfl
    subst ev
    have hs : SameT n f k g := (Cod.eqv hx.2.2.2.2.1 hy.2.2.2.2.1 hx.2.2.2.2.2 hy.2.2.2.2.2).mp ⟨rfl, fun _ _ => rfl⟩
    exact ⟨s₁, some (.int 1), _, _, _, X0, rfl, rfl, rfl, (fun h => by cases h), ⟨1, rfl, hh0, Or.inl ⟨rfl, hs⟩⟩, fun fs hl => c2.trans (X0.ireturnOut hexec hret rfl (Or.inr (Or.inl rfl)) (hb hbytes d6) hl)⟩
  · have c2 : Steps p.tables e below (s₁.setTop (entryFrame m #[.ref x, .ref y] 3)) (s₁.setTop (mkF m 8 #[.val (.ref x), .val (.ref y), .unset] [.ref y])) := c1.trans (by
      refine acmpYes X0.here hexec rfl (pc0 := 2) rfl (hb hbytes d2) rfl rfl rfl (by simp [acmp, hxy]) (by decide) rfl ?_
      refine XS.aloadN X0.here hexec rfl (hb hbytes d7) rfl rfl ?_
      exact Steps.refl _)
    obtain ⟨T3, X3, q3, st3⟩ := cinst X0 hexec hown (wk W (.classLink "java/lang/String" 10 "java/lang/String")) (hy.mv X0.warmed.alike hh0).1 (g := (mkF m 8 #[.val (.ref x), .val (.ref y), .unset] [.ref y])) rfl (rest := []) rfl (hb hbytes d8)
    have hh3 := q3.trans hh0
    have c4 : Steps p.tables e below (s₁.setTop (entryFrame m #[.ref x, .ref y] 3)) (T3.setTop (mkF m 15 #[.val (.ref x), .val (.ref y), .unset] [.ref y])) := (c2.trans (st3 _ (Steps.refl _))).trans (by
      refine XS.ifNo X3.here hexec rfl (hb hbytes d11) rfl (i0_eq_f (by decide)) ?_
      refine XS.aloadN X3.here hexec rfl (hb hbytes d14) rfl rfl ?_
      exact Steps.refl _)
    obtain ⟨T5, X5, q5, st5⟩ := cself X3 hexec hown (wk W (.classLink "java/lang/String" 10 "java/lang/String")) (hy.mv X3.warmed.alike hh3).1 (g := (mkF m 15 #[.val (.ref x), .val (.ref y), .unset] [.ref y])) rfl (rest := []) rfl (hb hbytes d15)
    have hh5 := q5.trans hh3
    have c6 : Steps p.tables e below (s₁.setTop (entryFrame m #[.ref x, .ref y] 3)) (T5.setTop (mkF m 19 #[.val (.ref x), .val (.ref y), .val (.ref y)] [])) := (c4.trans (st5 _ (Steps.refl _))).trans (by
      refine XS.astoreN X5.here hexec rfl (hb hbytes d18) rfl rfl rfl ?_
      exact Steps.refl _)
    obtain ⟨T7, X7, q7, st7⟩ := X5.sget hexec hown (wk W (.fieldLink "java/lang/String" 38 "java/lang/String" "COMPACT_STRINGS" "Z")) s1 (fun _ _ h => by rw [hh5]; exact h) (g := (mkF m 19 #[.val (.ref x), .val (.ref y), .val (.ref y)] [])) rfl (hb hbytes d19)
    have hh7 := q7.trans hh5
    have c8 : Steps p.tables e below (s₁.setTop (entryFrame m #[.ref x, .ref y] 3)) (T7.setTop (mkF m 26 #[.val (.ref x), .val (.ref y), .val (.ref y)] [.ref x])) := (c6.trans (st7 _ (Steps.refl _))).trans (by
      refine XS.ifNo X7.here hexec rfl (hb hbytes d22) rfl (i0_eq_f hz) ?_
      refine XS.aloadN X7.here hexec rfl (hb hbytes d25) rfl rfl ?_
      exact Steps.refl _)
    obtain ⟨T9, X9, q9, st9⟩ := X7.hget hexec hown (wk W (.fieldLink "java/lang/String" 15 "java/lang/String" "coder" "B")) (hx.mv X7.warmed.alike hh7).2.2.1 (g := (mkF m 26 #[.val (.ref x), .val (.ref y), .val (.ref y)] [.ref x])) rfl (rest := []) rfl (hb hbytes d26)
    have hh9 := q9.trans hh7
    have c10 : Steps p.tables e below (s₁.setTop (entryFrame m #[.ref x, .ref y] 3)) (T9.setTop (mkF m 30 #[.val (.ref x), .val (.ref y), .val (.ref y)] [.ref y, .int cd])) := (c8.trans (st9 _ (Steps.refl _))).trans (by
      refine XS.aloadN X9.here hexec rfl (hb hbytes d29) rfl rfl ?_
      exact Steps.refl _)
    obtain ⟨T11, X11, q11, st11⟩ := X9.hget hexec hown (wk W (.fieldLink "java/lang/String" 15 "java/lang/String" "coder" "B")) (hy.mv X9.warmed.alike hh9).2.2.1 (g := (mkF m 30 #[.val (.ref x), .val (.ref y), .val (.ref y)] [.ref y, .int cd])) rfl (rest := [.int cd]) rfl (hb hbytes d30)
    have hh11 := q11.trans hh9
    have c12 : Steps p.tables e below (s₁.setTop (entryFrame m #[.ref x, .ref y] 3)) (T11.setTop (mkF m 33 #[.val (.ref x), .val (.ref y), .val (.ref y)] [.int cd', .int cd])) := c10.trans (st11 _ (Steps.refl _))
    by_cases hcd : cd = cd'
    · subst hcd
      have c13 : Steps p.tables e below (s₁.setTop (entryFrame m #[.ref x, .ref y] 3)) (T11.setTop (mkF m 37 #[.val (.ref x), .val (.ref y), .val (.ref y)] [.ref x])) := c12.trans (by
        refine XS.icmpNo X11.here hexec rfl (hb hbytes d33) rfl (ii_ne_f rfl) ?_
        refine XS.aloadN X11.here hexec rfl (hb hbytes d36) rfl rfl ?_
        exact Steps.refl _)
      obtain ⟨T14, X14, q14, st14⟩ := X11.hget hexec hown (wk W (.fieldLink "java/lang/String" 9 "java/lang/String" "value" "[B")) (hx.mv X11.warmed.alike hh11).2.1 (g := (mkF m 37 #[.val (.ref x), .val (.ref y), .val (.ref y)] [.ref x])) rfl (rest := []) rfl (hb hbytes d37)
      have hh14 := q14.trans hh11
      have c15 : Steps p.tables e below (s₁.setTop (entryFrame m #[.ref x, .ref y] 3)) (T14.setTop (mkF m 41 #[.val (.ref x), .val (.ref y), .val (.ref y)] [.ref y, .ref t])) := (c13.trans (st14 _ (Steps.refl _))).trans (by
        refine XS.aloadN X14.here hexec rfl (hb hbytes d40) rfl rfl ?_
        exact Steps.refl _)
      obtain ⟨T16, X16, q16, st16⟩ := X14.hget hexec hown (wk W (.fieldLink "java/lang/String" 9 "java/lang/String" "value" "[B")) (hy.mv X14.warmed.alike hh14).2.1 (g := (mkF m 41 #[.val (.ref x), .val (.ref y), .val (.ref y)] [.ref y, .ref t])) rfl (rest := [.ref t]) rfl (hb hbytes d41)
      have hh16 := q16.trans hh14
      have c17 : Steps p.tables e below (s₁.setTop (entryFrame m #[.ref x, .ref y] 3)) (T16.setTop (mkF m 44 #[.val (.ref x), .val (.ref y), .val (.ref y)] [.ref t', .ref t])) := c15.trans (st16 _ (Steps.refl _))
      obtain ⟨v18, T18, X18, E18, g18⟩ := X16.callS hexec (LEq.law l t V t' V') hown (wks W (staticW "java/lang/String" 541 LEq.yN)) (wk W LEq.tab) (W := 0) (Nat.le_of_ble_eq_true rfl) (Nat.le_of_ble_eq_true rfl) (Nat.le_refl _) (Nat.le_refl _) (g := (mkF m 44 #[.val (.ref x), .val (.ref y), .val (.ref y)] [.ref t', .ref t])) rfl (by rw [hml]; rfl) c17 (argsL := [.ref t, .ref t']) (rest := []) rfl rfl (by show 2 * 0 + 0 ≤ _; decide) (hb hbytes d44) (⟨rfl, hx.2.2.2.1.mv X16.warmed.alike hh16, hx.2.2.2.2.1.ty, hy.2.2.2.1.mv X16.warmed.alike hh16, hy.2.2.2.2.1.ty⟩)
      obtain ⟨v, rfl, q18, hv⟩ := E18
      have iff := Cod.eqv hx.2.2.2.2.1 hy.2.2.2.2.1 hx.2.2.2.2.2 hy.2.2.2.2.2
      rcases hv with ⟨rfl, he⟩ | ⟨rfl, he⟩
      · have c19 : Steps p.tables e below (s₁.setTop (entryFrame m #[.ref x, .ref y] 3)) (T18.setTop (mkF m 55 #[.val (.ref x), .val (.ref y), .val (.ref y)] [.int 1])) := Steps.trans g18 (by
          refine XS.ifNo X18.here hexec rfl (hb hbytes d47) rfl (i0_eq_f (by decide)) ?_
          refine iconstV X18.here hexec rfl 1 (hb hbytes d50) (by decide) ?_
          refine XS.goto X18.here hexec rfl (pc0 := 51) rfl (hb hbytes d51) (by decide) rfl ?_
          exact Steps.refl _)
        exact ⟨T18, some (.int 1), _, _, _, X18, rfl, rfl, rfl, (fun h => by cases h), ⟨1, rfl, q18.trans hh16, Or.inl ⟨rfl, iff.mp he⟩⟩, fun fs hl => c19.trans (X18.ireturnOut hexec hret rfl (Or.inr (Or.inl rfl)) (hb hbytes d55) hl)⟩
      · have c19 : Steps p.tables e below (s₁.setTop (entryFrame m #[.ref x, .ref y] 3)) (T18.setTop (mkF m 55 #[.val (.ref x), .val (.ref y), .val (.ref y)] [.int 0])) := Steps.trans g18 (by
          refine XS.ifYes X18.here hexec rfl (pc0 := 47) rfl (hb hbytes d47) rfl (i0_eq_t rfl) (by decide) rfl ?_
          refine iconstV X18.here hexec rfl 0 (hb hbytes d54) (by decide) ?_
          exact Steps.refl _)
        exact ⟨T18, some (.int 0), _, _, _, X18, rfl, rfl, rfl, (fun h => by cases h), ⟨0, rfl, q18.trans hh16, Or.inr ⟨rfl, fun q => he (iff.mpr q)⟩⟩, fun fs hl => c19.trans (X18.ireturnOut hexec hret rfl (Or.inr (Or.inl rfl)) (hb hbytes d55) hl)⟩
    · have c13 : Steps p.tables e below (s₁.setTop (entryFrame m #[.ref x, .ref y] 3)) (T11.setTop (mkF m 55 #[.val (.ref x), .val (.ref y), .val (.ref y)] [.int 0])) := c12.trans (by
        refine XS.icmpYes X11.here hexec rfl (pc0 := 33) rfl (hb hbytes d33) rfl (ii_ne_t hcd) (by decide) rfl ?_
        refine iconstV X11.here hexec rfl 0 (hb hbytes d54) (by decide) ?_
        exact Steps.refl _)
      exact ⟨T11, some (.int 0), _, _, _, X11, rfl, rfl, rfl, (fun h => by cases h), ⟨0, rfl, hh11, Or.inr ⟨rfl, Cod.dif hx.2.2.2.2.1 hy.2.2.2.2.1 hcd⟩⟩, fun fs hl => c13.trans (X11.ireturnOut hexec hret rfl (Or.inr (Or.inl rfl)) (hb hbytes d55) hl)⟩
theorem pays {l : Launch} {R : Room} {p : Program} {e : Env} {below : List Frame} {s : State} {sargs : Array Value} {len W : Nat} (x t : Addr) (V : Cell) (cd : Int32) (n : Nat) (f : Nat → Int32) (y t' : Addr) (V' : Cell) (cd' : Int32) (k : Nat) (g : Nat → Int32) (z : Int32) (htab : tab.before sargs s = true) (hfr : 2 ≤ R.frames) (hlo : W + 28 ≤ R.locals) :
    Back l R p e below s sargs yN len W (fun A₁ a₁ => A₁.cells + 0 ≤ R.cells ∧ A₁.slots + 0 ≤ R.slots ∧ P x t V cd n f y t' V' cd' k g z a₁ A₁.U) (fun A₁ _ v₁ B₁ => Says01 (SameT n f k g) v₁ A₁.U B₁.U ∧ B₁.locs = A₁.locs ++ [] ∧ B₁.cells = A₁.cells + 0 ∧ B₁.slots = A₁.slots + 0) :=
  (law l x t V cd n f y t' V' cd' k g z).pays htab hfr (by omega)
end SEq
end StrChars
namespace StrChars.Road
open Jvm Sem ClassFile Op Lib Jvm.Stand Jvm.Free Jvm.Free.XT
open Jvm.Lib.Cold (StaticIs)
/-- the words of String.equals(Object) -/
abbrev wordsEq : List Jvm.Cond := [.code SEq.yN SEq.yB 3 (some .boolean), .initialized ST, .classLink ST 10 ST, .fieldLink ST 38 ST "COMPACT_STRINGS" "Z", .fieldLink ST 15 ST "coder" "B", .fieldLink ST 9 ST "value" "[B", .methodLink ST 541 LEq.yN, .static LEq.yN, .code LEq.yN LEq.yB 3 (some .boolean), .initialized "java/lang/StringLatin1"]
theorem tabEq_of {a : Array Value} {s : State} (h : ∀ w ∈ wordsEq, w.before a s = true) : SEq.tab.before a s = true := by
  have hl : LEq.tab.before a s = true := unparts (wk h (.code LEq.yN LEq.yB 3 (some .boolean))) (wks h (.initialized LEq.yN.cls :: LEq.site))
  have q := consq hl h
  exact unparts (wk q (.code SEq.yN SEq.yB 3 (some .boolean))) (wks q (.initialized SEq.yN.cls :: SEq.site))
theorem movedEq {Z s : State} {a0 args : Array Value} (hZ : Z.Warmed39 s.vm) (hw : ∀ d ∈ wordsEq, d.before a0 Z = true) : ∀ d ∈ wordsEq, d.before args s = true := fun d hd => by
  have t : ∀ d ∈ wordsEq, (d.onTables && d.keepsFace) = true := by decide +kernel
  exact RoadKit.mv hZ (hw d hd) (t d hd)
/-- the road's facts of a String, as the laws ask it -/
theorem txt_of {Z U : State} {a0 : Array Value} {kI : Nat} (wi : (Jvm.Cond.instantiable ST kI).before a0 Z = true) (al : Z.vm.Alike U.vm) {x t : Addr} {kb : ClassId} {cs : List Int32} {cd N2 : Int32} {vs : List Value} (E : RoadKit.Exa Z U.heap x ST) (V : RoadKit.Fld Z U.heap x ST "value" "[B" (.ref t)) (C : RoadKit.Fld Z U.heap x ST "coder" "B" (.int cd)) (K : RoadKit.Arv Z U.heap t kb .byte N2 vs (.int 0)) (hc : CodA cs cd N2 vs) (hb : ∀ c ∈ cs, ¬ c < 0 ∧ ¬ (65535 : Int32) < c) (l2 : cs.length ≤ 4000) :
    ∃ A, Txt x t A cd cs.length (fun j => cs.getD j 0) U := by
  obtain ⟨A, K1, K2, K3, K4, K5, K6⟩ := K
  have hcod := hc.cod (by omega) K3 K5
  obtain ⟨D, fV, fC, hB, F1, F2, g1, g2, -, -⟩ := strObj wi al E V C
  exact ⟨A, ⟨_, hB.2.2.1, D, hB.1, rfl, by cases q : D.vm <;> first | rfl | exact absurd q (hB.2.1.2 _)⟩, Has.of hB F1 g1, Has.of hB F2 g2, ⟨K1.1, State.isArrayOf_alike al K1.2.1, K1.2.2, by rcases hcod with ⟨-, q, -⟩ | ⟨-, q, -⟩ <;> omega⟩, hcod, fun j hj => by
    have e : cs.getD j 0 = cs[j] := by simp [List.getD_eq_getElem?_getD, hj]
    show ¬ cs.getD j 0 < 0 ∧ ¬ 65535 < cs.getD j 0
    rw [e]; exact hb _ (List.getElem_mem _)⟩
theorem same_list (cs ds : List Int32) : SameT cs.length (fun j => cs.getD j 0) ds.length (fun j => ds.getD j 0) ↔ cs = ds := by
  constructor
  · rintro ⟨e, q⟩
    refine List.ext_getElem e fun j h1 h2 => ?_
    have := q j h1
    simpa [List.getD_eq_getElem?_getD, h1, h2] using this
  · rintro rfl
    exact ⟨rfl, fun _ _ => rfl⟩
/-- **equals(Object) OF TWO SUCH STRINGS**: 1 just where the chars are the same -/
theorem eqW {p : Program} {l : Launch} {e : Env} {R : Room} {s : State} {args : Array Value} {below : List Frame} {len W : Nat} {Z : State} {a0 : Array Value} {h : Heap} (hZ : Z.Warmed39 s.vm) (hw : ∀ d ∈ wordsEq, d.before a0 Z = true) {kI : Nat} (wi : (Jvm.Cond.instantiable ST kI).before a0 Z = true)
    {x t : Addr} {kb : ClassId} {cs : List Int32} {cd N2 : Int32} {vs : List Value} (E : RoadKit.Exa Z h x ST) (V : RoadKit.Fld Z h x ST "value" "[B" (.ref t)) (C : RoadKit.Fld Z h x ST "coder" "B" (.int cd)) (K : RoadKit.Arv Z h t kb .byte N2 vs (.int 0)) (hc : CodA cs cd N2 vs) (hb : ∀ c ∈ cs, ¬ c < 0 ∧ ¬ (65535 : Int32) < c) (l2 : cs.length ≤ 4000)
    {y t' : Addr} {kb' : ClassId} {ds : List Int32} {cd' N2' : Int32} {vs' : List Value} (E' : RoadKit.Exa Z h y ST) (V' : RoadKit.Fld Z h y ST "value" "[B" (.ref t')) (C' : RoadKit.Fld Z h y ST "coder" "B" (.int cd')) (K' : RoadKit.Arv Z h t' kb' .byte N2' vs' (.int 0)) (hc' : CodA ds cd' N2' vs') (hb' : ∀ c ∈ ds, ¬ c < 0 ∧ ¬ (65535 : Int32) < c) (l2' : ds.length ≤ 4000)
    {z : Int32} (S : RoadKit.Sta Z h ST "COMPACT_STRINGS" "Z" (.int z)) (hz : ¬ z = 0) (hfr : 2 ≤ R.frames) (hlo : W + 28 ≤ R.locals) :
    Back l R p e below s args (⟨"java/lang/String", "equals", "(Ljava/lang/Object;)Z"⟩ : MethodName) len W (fun P a => a = #[.ref x, .ref y] ∧ P.U.heap = h ∧ P.cells + 0 ≤ R.cells ∧ P.slots + 0 ≤ R.slots)
      (fun P _ v B => ∃ L, (((v = some (.int 1) ∧ cs = ds) ∨ (v = some (.int 0) ∧ ¬ cs = ds)) ∧ L = [] ∧ B.U.heap = h) ∧ B.locs = P.locs ++ L ∧ B.cells = P.cells + 0 ∧ B.slots = P.slots + 0) := by
  intro m meth c P g ig mk a X hg hsize hdg hW hn hp'
  obtain ⟨rfl, rfl, r1, r2⟩ := hp'
  have al : Z.vm.Alike P.U.vm := hZ.alike.trans X.warmed.alike
  obtain ⟨A, hx⟩ := txt_of wi al E V C K hc hb l2
  obtain ⟨A', hy⟩ := txt_of wi al E' V' C' K' hc' hb' l2'
  obtain ⟨v, B, X', ⟨⟨w, hv, hh, hq⟩, hl, hk, hs⟩, st⟩ := SEq.pays x t A cd cs.length (fun j => cs.getD j 0) y t' A' cd' ds.length (fun j => ds.getD j 0) z (tabEq_of (movedEq hZ hw)) hfr hlo m meth c P g ig mk _ X hg hsize hdg hW hn ⟨r1, r2, rfl, hx, hy, sta_is al S, hz⟩
  refine ⟨v, B, X', ⟨[], ⟨?_, rfl, hh⟩, hl, hk, hs⟩, st⟩
  rcases hq with ⟨rfl, q⟩ | ⟨rfl, q⟩
  · exact Or.inl ⟨hv, (same_list cs ds).mp q⟩
  · exact Or.inr ⟨hv, fun e => q ((same_list cs ds).mpr e)⟩
end StrChars.Road
namespace StrChars.Road
open Jvm Sem ClassFile Op Lib Jvm.Stand Jvm.Free Jvm.Free.XT
open Jvm.Lib.Cold (StaticIs)
/-- what backV says of its String, as the contracts of this text ask it: cs's low bytes, coder 0 -/
theorem codOf {cs : List Int32} {n : Nat} (hn : cs.length = n) (hb : ∀ c ∈ cs, ¬ 255 < c) : CodA cs 0 (Int32.ofNat n) ((cs.map lo8).map Value.int) := Or.inl ⟨rfl, by rw [hn], by simp [List.map_map, Function.comp_def], hb⟩
end StrChars.Road
end Jvm.Pilot.@@N@@

namespace Jvm.Pilot.@@N@@
open Jvm Jvm.ClassFile Sem Op Lib Jvm.Free Jvm.Stand Jvm.LawKit Jvm.RoadKit Bundle Jvm.Pilot.@@N@@.Jvm.D

theorem own_and255 (x : Int32) : ¬ nar .char ((x &&& (255 : Int32)).toUInt32.toUInt16.toUInt32.toInt32) < 0 ∧ ¬ (255 : Int32) < nar .char ((x &&& (255 : Int32)).toUInt32.toUInt16.toUInt32.toInt32) := by
  have t : ∀ k : Fin 256, ¬ nar .char ((Int32.ofNat k.val).toUInt32.toUInt16.toUInt32.toInt32) < 0 ∧ ¬ (255 : Int32) < nar .char ((Int32.ofNat k.val).toUInt32.toUInt16.toUInt32.toInt32) := by decide +kernel
  have h : (x &&& 255).toBitVec.toNat < 256 := by
    simp only [Int32.toBitVec_and, BitVec.toNat_and]
    exact Nat.lt_succ_of_le Nat.and_le_right
  have e : (x &&& 255) = Int32.ofNat (x &&& 255).toBitVec.toNat := by
    apply Int32.toBitVec_inj.mp
    show _ = BitVec.ofNat 32 _
    rw [BitVec.ofNat_toNat]; simp
  rw [e]
  exact t ⟨_, h⟩

theorem own_up (cs : List Int32) (h : ∀ c ∈ cs, ¬ c < 0 ∧ ¬ (255 : Int32) < c) : ∀ c ∈ cs, ¬ c < 0 ∧ ¬ (65535 : Int32) < c := fun c hc => ⟨(h c hc).1, fun q => (h c hc).2 (by rw [Int32.lt_iff_toInt_lt] at q ⊢; have e1 : (65535 : Int32).toInt = 65535 := rfl; have e2 : (255 : Int32).toInt = 255 := rfl; omega)⟩
theorem pd___V : parseMethodDescriptor "()V" = some ⟨[], none⟩ := by decide +kernel
theorem pd__I_Lcom_example_tramway_tramway_idl_Token_Kind_ : parseMethodDescriptor "(I)Lcom/example/tramway/tramway/idl/Token$Kind;" = some ⟨[.int], some (.object "com/example/tramway/tramway/idl/Token$Kind")⟩ := by decide +kernel
theorem pd__ICC_Ljava_lang_String_ : parseMethodDescriptor "(ICC)Ljava/lang/String;" = some ⟨[.int, .char, .char], some (.object "java/lang/String")⟩ := by decide +kernel
theorem pd__Lcom_example_tramway_tramway_idl_Token_Kind_Ljava_lang_String__Z : parseMethodDescriptor "(Lcom/example/tramway/tramway/idl/Token$Kind;Ljava/lang/String;)Z" = some ⟨[(.object "com/example/tramway/tramway/idl/Token$Kind"), (.object "java/lang/String")], some .boolean⟩ := by decide +kernel
theorem pd__Lcom_example_tramway_tramway_idl_Token_Kind_Ljava_lang_String_Lcom_example_tramway_tramway_idl_Position_Z_V : parseMethodDescriptor "(Lcom/example/tramway/tramway/idl/Token$Kind;Ljava/lang/String;Lcom/example/tramway/tramway/idl/Position;Z)V" = some ⟨[(.object "com/example/tramway/tramway/idl/Token$Kind"), (.object "java/lang/String"), (.object "com/example/tramway/tramway/idl/Position"), .boolean], none⟩ := by decide +kernel
theorem pd__Ljava_lang_Object__Z : parseMethodDescriptor "(Ljava/lang/Object;)Z" = some ⟨[(.object "java/lang/Object")], some .boolean⟩ := by decide +kernel
theorem pd__Ljava_lang_String_I_V : parseMethodDescriptor "(Ljava/lang/String;I)V" = some ⟨[(.object "java/lang/String"), .int], none⟩ := by decide +kernel
theorem pd___C_V : parseMethodDescriptor "([C)V" = some ⟨[(.array .char)], none⟩ := by decide +kernel
theorem pd___CIILjava_lang_Void__V : parseMethodDescriptor "([CIILjava/lang/Void;)V" = some ⟨[(.array .char), .int, .int, (.object "java/lang/Void")], none⟩ := by decide +kernel
def own_EL : List (String × Nat) := [("java/lang/String", 7)]
theorem own_hEL {Z : State} {a0 : Array Value} (hw : ∀ d ∈ tables_1, d.before a0 Z = true) : EW Z a0 own_EL := (EW.cons (hw _ (List.mem_of_getElem? (i := 19) rfl)) (by decide) EW.nil)
theorem own_hsA {Z : State} {a0 : Array Value} (hw : ∀ d ∈ tables_1, d.before a0 Z = true) : ∀ a ∈ Bundle.stringAtoms, a.before a0 Z = true := by
  intro d hd
  simp only [Bundle.stringAtoms, List.mem_cons, List.not_mem_nil, or_false] at hd
  rcases hd with rfl | rfl | rfl | rfl | rfl | rfl | rfl
  · exact (hw _ (List.mem_of_getElem? (i := 7) rfl))
  · exact (hw _ (List.mem_of_getElem? (i := 6) rfl))
  · exact (hw _ (List.mem_of_getElem? (i := 20) rfl))
  · exact (hw _ (List.mem_of_getElem? (i := 21) rfl))
  · exact (hw _ (List.mem_of_getElem? (i := 22) rfl))
  · exact (hw _ (List.mem_of_getElem? (i := 23) rfl))
  · exact (hw _ (List.mem_of_getElem? (i := 24) rfl))
def own_L0 : List Int32 := []
theorem own_txt_0 : (∀ c ∈ ("" : String).toList, c.toNat < 256) ∧ ("" : String).toList.map (fun c => Value.int (Jvm.Lit.byteI c.toNat.toUInt16)) = ((own_L0.map (fun c => c.toInt8.toInt32)).map Value.int) := ⟨by decide +kernel, by decide +kernel⟩
theorem own_safe_null {Z : State} {h : Heap} {x : Addr} {vm : Vm} {EL : List (String × Nat)} {a0 : Array Value} {kk : Nat} (hal : Z.vm.Alike vm) (E : Exa Z h x "java/lang/String") (F : Fld Z h x "java/lang/String" "value" "[B" .null) (wi : (Jvm.Cond.instantiable "java/lang/String" kk).before a0 Z = true) : Safe Z EL vm h x := fun B => by
  obtain ⟨cell, k, e1, e2, e3, -, -⟩ := E
  obtain ⟨c2, k2, i1, i2, i3, -⟩ := Cond.instantiable_spec wi
  cases e2.symm.trans i1
  cases e3.symm.trans i2
  obtain ⟨cell', cf, kf, i, f, f1, f2, f3, f4, f5, f6, f7⟩ := F
  cases e1.symm.trans f1
  obtain ⟨p, -, u, a, -, q, -, G, rfl | rfl⟩ := B
  · cases (show h[q.sa]? = some q.sC from G.ha).symm.trans e1
    obtain ⟨cS, ⟨⟨s1, s2, s3, ⟨cv, kv, iv, s4, s4'⟩, -, s6, s7, s8, -⟩, -, -⟩, -⟩ := G
    obtain ⟨kv', z4⟩ := ff_back (U := Wst Z vm h) hal s4
    cases f2.symm.trans z4
    cases f7.symm.trans s8
  · cases (show h[q.sd]? = some q.SA from G.hd).symm.trans e1
    obtain ⟨cS, ⟨⟨-, -, -, -, -, -, -, -, -, -, ⟨-, kB, hkB, compB, hkindB⟩, -⟩, -, -⟩, -⟩ := G
    obtain ⟨kA', hkA', ekA⟩ := hal.2.2 _ _ e3
    cases (show vm.classes[q.SA.cls]? = some kB from hkB).symm.trans hkA'
    rw [ekA] at hkindB
    have := i3.symm.trans hkindB
    cases this
def QE (Z : State) (a1 : Addr) (h0 : Heap) (n0 : Nat) (v : Option Value) (h : Heap) (L : List Loc) : Prop := v = none ∧ Fr n0 L ∧ Keep h0 h [a1] ∧ Exa Z h a1 "java/lang/String" ∧ Fld Z h a1 "java/lang/String" "coder" "B" (.int (0 : Int32)) ∧ ∃ (t : Addr) (kb : ClassId), t ≠ a1 ∧ Fld Z h a1 "java/lang/String" "value" "[B" (.ref t) ∧ Arv Z h t kb .byte (0 : Int32) [] (.int (0 : Int32))
theorem dEV_0 : decode jdk_42_method_149_code 0 = .ok (.aload_n 0, 1) := by decide +kernel
theorem dEV_1 : decode jdk_42_method_149_code 1 = .ok (.invokespecial 1, 3) := by decide +kernel
theorem dEV_4 : decode jdk_42_method_149_code 4 = .ok (.iload_n 3, 1) := by decide +kernel
theorem dEV_5 : decode jdk_42_method_149_code 5 = .ok (.ifCond .ne 22, 3) := by decide +kernel
theorem dEV_8 : decode jdk_42_method_149_code 8 = .ok (.aload_n 0, 1) := by decide +kernel
theorem dEV_9 : decode jdk_42_method_149_code 9 = .ok (.ldc 7, 2) := by decide +kernel
theorem dEV_11 : decode jdk_42_method_149_code 11 = .ok (.getfield 9, 3) := by decide +kernel
theorem dEV_14 : decode jdk_42_method_149_code 14 = .ok (.putfield 9, 3) := by decide +kernel
theorem dEV_17 : decode jdk_42_method_149_code 17 = .ok (.aload_n 0, 1) := by decide +kernel
theorem dEV_18 : decode jdk_42_method_149_code 18 = .ok (.ldc 7, 2) := by decide +kernel
theorem dEV_20 : decode jdk_42_method_149_code 20 = .ok (.getfield 15, 3) := by decide +kernel
theorem dEV_23 : decode jdk_42_method_149_code 23 = .ok (.putfield 15, 3) := by decide +kernel
theorem dEV_26 : decode jdk_42_method_149_code 26 = .ok (.return_, 1) := by decide +kernel
theorem pnST : plainName "java/lang/String" = true := by first | (simp [plainName, overriddenIn]; done) | decide +kernel
theorem efEV (m : MethodId) (x0 : Addr) (x1 : Addr) (x2 : Int32) (x3 : Int32) : entryFrame m #[(.ref x0), (.ref x1), (.int x2), (.int x3), .null] 6 = mkF m 0 #[.val (.ref x0), .val (.ref x1), .val (.int x2), .val (.int x3), .val .null, .unset] [] := by first | (simp [entryFrame, mkF, argsToLocals, Value.category]; done) | rfl
set_option maxRecDepth 65536 in
set_option maxHeartbeats 40000000 in
theorem rmEV (l : Launch) (Z : State) (a0 : Array Value) (hw : ∀ d ∈ tables_1, d.before a0 Z = true) (ws : List Jvm.Cond) (a1 ca : Addr) (u2 : Value) (h0 : Heap) (n0 : Nat) (g_a1 : n0 ≤ a1) (E_a1 : Exa Z h0 a1 "java/lang/String") (F_value_a1 : Fld Z h0 a1 "java/lang/String" "value" "[B" .null) (F_coder_a1 : Fld Z h0 a1 "java/lang/String" "coder" "B" u2) :
    MetFree l (⟨"java/lang/String", "<init>", "([CIILjava/lang/Void;)V"⟩ : MethodName) (head1 (Jvm.Cond.code (⟨"java/lang/String", "<init>", "([CIILjava/lang/Void;)V"⟩ : MethodName) jdk_42_method_149_code 6 none :: ws) ({ frames := 1, cells := 4, slots := 8, locals := 12 } : Room)) (fun a U => a = #[(.ref a1), (.ref ca), (.int (0 : Int32)), (.int (0 : Int32)), .null] ∧ Z.Warmed39 U.vm ∧ U.heap = h0 ∧ CHv Z own_EL U.vm h0) (fun _ _ _ _ _ => True) (fun _ U o U' => ∃ v L, o = .returned v ∧ QE Z a1 h0 n0 v U'.heap L ∧ CHr Z own_EL U.vm U.heap U'.vm U'.heap ∧ ReturnedEndW U o U' L ({ frames := 1, cells := 4, slots := 8, locals := 12 } : Room).cells ({ frames := 1, cells := 4, slots := 8, locals := 12 } : Room).slots) := by
  refine MetFree.of_bodySF (plainFor_of_name pnST) hisR ?_
  intro p e s m args below meth c s₁ Bd hml0 hP hK
  obtain ⟨rfl, hZ, hh, HC⟩ := hP
  have hx := Bd.exec
  have hby := Bd.bytes
  have hml : c.maxLocals = 6 := hml0
  have hown : s.vm.findClass "java/lang/String" = some m.cls := findClass_of_methodNamed Bd.named
  have hnm := (name_of_methodNamed Bd.named Bd.method).1
  have X0 : Stand p l e ({ frames := 1, cells := 4, slots := 8, locals := 12 } : Room) (s.setVm s.vm) m #[(.ref a1), (.ref ca), (.int (0 : Int32)), (.int (0 : Int32)), .null] below meth c s₁ [] 0 0 := Stand.of_body Bd
  have e0 : s₁.heap = h0 := by rw [← hh, Bd.state]; rfl
  have N0 := Fr.nil n0
  have go0 : ∀ t, Steps p.tables e below (s₁.setTop (mkF m 0 #[.val (.ref a1), .val (.ref ca), .val (.int (0 : Int32)), .val (.int (0 : Int32)), .val .null, .unset] [])) t → Steps p.tables e below (s₁.setTop (entryFrame m #[(.ref a1), (.ref ca), (.int (0 : Int32)), (.int (0 : Int32)), .null] 6)) t := fun t k => castTop (efEV m a1 ca (0 : Int32) (0 : Int32)) k
  have hEL : EW Z a0 own_EL := own_hEL hw
  have hsA : ∀ a ∈ Bundle.stringAtoms, a.before a0 Z = true := own_hsA hw
  have R0 : CHr Z own_EL s.vm h0 s.vm h0 := CHr.refl HC
  have hS0 : s.Since s.vm s.heap.size := (State.WarmedH.refl s).since _
  have hk0 : s.heap.size ≤ h0.size := Nat.le_of_eq (by rw [hh])
  have KH0 : Keep h0 h0 [a1] := Keep.refl h0 [a1]
  have lt_a1 : a1 < h0.size := E_a1.lt
  have sf0 : Safe Z own_EL s.vm h0 a1 := own_safe_null hZ.alike E_a1 F_value_a1 (hw _ (List.mem_of_getElem? (i := 6) rfl))
  obtain ⟨T101, X101, e101, st101⟩ := initO X0 hx hZ hown (hw _ (List.mem_of_getElem? (i := 16) rfl)) (hw _ (List.mem_of_getElem? (i := 17) rfl)) (hw _ (List.mem_of_getElem? (i := 18) rfl)) e0 (g := (mkF m 1 #[.val (.ref a1), .val (.ref ca), .val (.int (0 : Int32)), .val (.int (0 : Int32)), .val .null, .unset] [(.ref a1)])) rfl (by rw [hml]; rfl) rfl (hb hby dEV_1) (by decide) (W := 0) (by show 2 * 0 + _ ≤ _; exact Nat.le_of_eq rfl) (by decide)
  have go103 : ∀ t, Steps p.tables e below (T101.setTop (mkF m 9 #[.val (.ref a1), .val (.ref ca), .val (.int (0 : Int32)), .val (.int (0 : Int32)), .val .null, .unset] [(.ref a1)])) t → Steps p.tables e below (s₁.setTop (entryFrame m #[(.ref a1), (.ref ca), (.int (0 : Int32)), (.int (0 : Int32)), .null] 6)) t := fun t k => go0 t (by
      show Steps p.tables e below (s₁.setTop (mkF m 0 #[.val (.ref a1), .val (.ref ca), .val (.int (0 : Int32)), .val (.int (0 : Int32)), .val .null, .unset] [])) _
      refine XS.aloadN X0.here hx rfl (hb hby dEV_0) rfl rfl ?_
      show Steps p.tables e below (s₁.setTop (mkF m 1 #[.val (.ref a1), .val (.ref ca), .val (.int (0 : Int32)), .val (.int (0 : Int32)), .val .null, .unset] [(.ref a1)])) _
      refine st101 _ ?_
      show Steps p.tables e below (T101.setTop (mkF m 4 #[.val (.ref a1), .val (.ref ca), .val (.int (0 : Int32)), .val (.int (0 : Int32)), .val .null, .unset] [])) _
      refine XS.iloadN X101.here hx rfl (hb hby dEV_4) rfl ?_
      show Steps p.tables e below (T101.setTop (mkF m 5 #[.val (.ref a1), .val (.ref ca), .val (.int (0 : Int32)), .val (.int (0 : Int32)), .val .null, .unset] [(.int (0 : Int32))])) _
      refine XS.ifNo X101.here hx rfl (hb hby dEV_5) rfl ((if0 _ _).trans (teq (rfl : (0 : Int32) = (0 : Int32))).2) ?_
      show Steps p.tables e below (T101.setTop (mkF m 8 #[.val (.ref a1), .val (.ref ca), .val (.int (0 : Int32)), .val (.int (0 : Int32)), .val .null, .unset] [])) _
      refine XS.aloadN X101.here hx rfl (hb hby dEV_8) rfl rfl ?_
      exact k)
  obtain ⟨s1, T102, h102, kq102, t_s1, kb_s1, X102, e102, E102, hS102, hk102, hZ, hown, E_s1, F_coder_s1, F_value_s1, V_t_s1, lt_s1, lt_t_s1, C102, Li102, sn102, st102⟩ := ldcCH X101 hx hZ hown (hw _ (List.mem_of_getElem? (i := 19) rfl)) hsA e101 hS0 hk0 hEL (by decide) R0.1 (text := "") (vs := ((own_L0.map (fun c => c.toInt8.toInt32)).map Value.int)) (z := (0 : Int32)) own_txt_0 (by decide) rfl (g := (mkF m 9 #[.val (.ref a1), .val (.ref ca), .val (.int (0 : Int32)), .val (.int (0 : Int32)), .val .null, .unset] [(.ref a1)])) rfl (hb hby dEV_9) (n := 0) (by decide) (by decide) (by decide) (by decide)
  have K102 : Keep h0 h102 [] := (Keep.refl _ []).ext E102
  have sf104_a1 := CHr.safe C102 lt_a1 sf0
  have R104 := R0.trans C102
  have KH105 : Keep h0 h102 [a1] := KH0.trans K102 all0
  obtain ⟨ne_a1_s1, ne_a1_t_s1⟩ := sn102 a1 sf104_a1
  obtain ⟨T106, X106, e106, st106⟩ := getF X102 hx hZ hown (host := "") (Or.inl (hw _ (List.mem_of_getElem? (i := 25) rfl))) Via.refl e102 F_value_s1 (g := (mkF m 11 #[.val (.ref a1), .val (.ref ca), .val (.int (0 : Int32)), .val (.int (0 : Int32)), .val .null, .unset] [(.ref s1), (.ref a1)])) rfl rfl (hb hby dEV_11)
  have F_value_a1_108 := (F_value_a1.keep K102 nin0)
  have E_a1_109 := (E_a1.keep K102)
  obtain ⟨T107, h107, X107, e107, W107, st107⟩ := putF X106 hx hZ hown (host := "") (Or.inl (hw _ (List.mem_of_getElem? (i := 25) rfl))) Via.refl e106 F_value_a1_108 E_a1_109 (Or.inr ⟨(hw _ (List.mem_of_getElem? (i := 21) rfl)), rfl, hnm⟩) (hw _ (List.mem_of_getElem? (i := 6) rfl)) (ty := (.array .byte)) (by decide) rfl rfl (g := (mkF m 14 #[.val (.ref a1), .val (.ref ca), .val (.int (0 : Int32)), .val (.int (0 : Int32)), .val .null, .unset] [(.ref t_s1), (.ref a1)])) rfl rfl (hb hby dEV_14)
  have Fw107 := F_value_a1_108.same W107
  have K107 : Keep h102 h107 [a1] := Keep.of_wr W107
  have hs110 : ∀ sx_ ∈ ([a1] : List Addr), Safe Z own_EL T102.vm h102 sx_ := (allS sf104_a1 all0)
  have sf110_a1 := Safe.keep K107 hs110 R104.1 sf104_a1
  have R110 := R104.trans (CHr.keep K107 hs110 R104.1)
  have KH111 : Keep h0 h107 [a1] := KH105.trans K107 (allS (Or.inl (List.mem_of_getElem? (i := 0) rfl)) all0)
  have N107 := Fr.snoc X107 N0 g_a1
  have go113 : ∀ t, Steps p.tables e below (T107.setTop (mkF m 18 #[.val (.ref a1), .val (.ref ca), .val (.int (0 : Int32)), .val (.int (0 : Int32)), .val .null, .unset] [(.ref a1)])) t → Steps p.tables e below (s₁.setTop (entryFrame m #[(.ref a1), (.ref ca), (.int (0 : Int32)), (.int (0 : Int32)), .null] 6)) t := fun t k => go103 t (by
      show Steps p.tables e below (T101.setTop (mkF m 9 #[.val (.ref a1), .val (.ref ca), .val (.int (0 : Int32)), .val (.int (0 : Int32)), .val .null, .unset] [(.ref a1)])) _
      refine st102 _ ?_
      show Steps p.tables e below (T102.setTop (mkF m 11 #[.val (.ref a1), .val (.ref ca), .val (.int (0 : Int32)), .val (.int (0 : Int32)), .val .null, .unset] [(.ref s1), (.ref a1)])) _
      refine st106 _ ?_
      show Steps p.tables e below (T106.setTop (mkF m 14 #[.val (.ref a1), .val (.ref ca), .val (.int (0 : Int32)), .val (.int (0 : Int32)), .val .null, .unset] [(.ref t_s1), (.ref a1)])) _
      refine st107 _ ?_
      show Steps p.tables e below (T107.setTop (mkF m 17 #[.val (.ref a1), .val (.ref ca), .val (.int (0 : Int32)), .val (.int (0 : Int32)), .val .null, .unset] [])) _
      refine XS.aloadN X107.here hx rfl (hb hby dEV_17) rfl rfl ?_
      exact k)
  have HK_114 := (Nat.le_trans hk102 K107.1)
  have lt_a1_115 := (Nat.lt_of_lt_of_le (Nat.lt_of_lt_of_le lt_a1 K102.1) K107.1)
  obtain ⟨s2, T112, h112, kq112, t_s2, kb_s2, X112, e112, E112, hS112, hk112, hZ, hown, E_s2, F_coder_s2, F_value_s2, V_t_s2, lt_s2, lt_t_s2, C112, Li112, sn112, st112⟩ := ldcCH X107 hx hZ hown (hw _ (List.mem_of_getElem? (i := 19) rfl)) hsA e107 hS102 HK_114 hEL (by decide) R110.1 (text := "") (vs := ((own_L0.map (fun c => c.toInt8.toInt32)).map Value.int)) (z := (0 : Int32)) own_txt_0 (by decide) rfl (g := (mkF m 18 #[.val (.ref a1), .val (.ref ca), .val (.int (0 : Int32)), .val (.int (0 : Int32)), .val .null, .unset] [(.ref a1)])) rfl (hb hby dEV_18) (n := 0) (by decide) (by decide) (by decide) (by decide)
  have K112 : Keep h107 h112 [] := (Keep.refl _ []).ext E112
  have sf116_a1 := CHr.safe C112 lt_a1_115 sf110_a1
  have R116 := R110.trans C112
  have KH117 : Keep h0 h112 [a1] := KH111.trans K112 all0
  obtain ⟨ne_a1_s2, ne_a1_t_s2⟩ := sn112 a1 sf116_a1
  obtain ⟨T118, X118, e118, st118⟩ := getF X112 hx hZ hown (host := "") (Or.inl (hw _ (List.mem_of_getElem? (i := 26) rfl))) Via.refl e112 F_coder_s2 (g := (mkF m 20 #[.val (.ref a1), .val (.ref ca), .val (.int (0 : Int32)), .val (.int (0 : Int32)), .val .null, .unset] [(.ref s2), (.ref a1)])) rfl rfl (hb hby dEV_20)
  have F_coder_a1_120 := (((F_coder_a1.keep K102 nin0).other W107 (Or.inr (slot_ne (Or.inr (hw _ (List.mem_of_getElem? (i := 22) rfl))) (Or.inr (hw _ (List.mem_of_getElem? (i := 21) rfl))) (by decide) (t := .byte) (t' := (.array .byte)) (by decide) (by decide)))).keep K112 nin0)
  have E_a1_121 := ((E_a1_109.keep K107).keep K112)
  obtain ⟨T119, h119, X119, e119, W119, st119⟩ := putFN X118 hx hZ hown (hw _ (List.mem_of_getElem? (i := 26) rfl)) Via.refl e118 F_coder_a1_120 E_a1_121 (Or.inr ⟨(hw _ (List.mem_of_getElem? (i := 22) rfl)), rfl, hnm⟩) (hw _ (List.mem_of_getElem? (i := 6) rfl)) (ty := .byte) (v' := (.int (0 : Int32))) (by decide) rfl rfl (g := (mkF m 23 #[.val (.ref a1), .val (.ref ca), .val (.int (0 : Int32)), .val (.int (0 : Int32)), .val .null, .unset] [(.int (0 : Int32)), (.ref a1)])) rfl rfl (hb hby dEV_23)
  have Fw119 := F_coder_a1_120.same W119
  have K119 : Keep h112 h119 [a1] := Keep.of_wr W119
  have hs122 : ∀ sx_ ∈ ([a1] : List Addr), Safe Z own_EL T112.vm h112 sx_ := (allS sf116_a1 all0)
  have sf122_a1 := Safe.keep K119 hs122 R116.1 sf116_a1
  have R122 := R116.trans (CHr.keep K119 hs122 R116.1)
  have KH123 : Keep h0 h119 [a1] := KH117.trans K119 (allS (Or.inl (List.mem_of_getElem? (i := 0) rfl)) all0)
  have N119 := Fr.snoc X119 N107 g_a1
  have E_a1_124 := (E_a1_121.keep K119)
  have F_value_a1_125 := ((Fw107.keep K112 nin0).other W119 (Or.inr (slot_ne (Or.inr (hw _ (List.mem_of_getElem? (i := 21) rfl))) (Or.inr (hw _ (List.mem_of_getElem? (i := 22) rfl))) (by decide) (t := (.array .byte)) (t' := .byte) (by decide) (by decide))))
  have V_t_s1_126 := (((V_t_s1.keep K107 (ninS (Ne.symm ne_a1_t_s1) nin0)).keep K112 nin0).keep K119 (ninS (Ne.symm ne_a1_t_s1) nin0))
  have HK_127 := (Nat.le_trans hk112 K119.1)
  obtain ⟨fs, hr, hrun, hended, hRE⟩ := X119.leaveW hS112 (by rw [e119]; exact HK_127) (v := none) (fun _ => rfl)
  refine ⟨_, _, go113 _ ?_, hrun, hended, _, _, rfl, ?_, ?_, hRE.1, hRE.2.1, hRE.2.2.1, hRE.2.2.2.mono (by decide) (by decide)⟩
  · show Steps p.tables e below (T107.setTop (mkF m 18 #[.val (.ref a1), .val (.ref ca), .val (.int (0 : Int32)), .val (.int (0 : Int32)), .val .null, .unset] [(.ref a1)])) _
    refine st112 _ ?_
    show Steps p.tables e below (T112.setTop (mkF m 20 #[.val (.ref a1), .val (.ref ca), .val (.int (0 : Int32)), .val (.int (0 : Int32)), .val .null, .unset] [(.ref s2), (.ref a1)])) _
    refine st118 _ ?_
    show Steps p.tables e below (T118.setTop (mkF m 23 #[.val (.ref a1), .val (.ref ca), .val (.int (0 : Int32)), .val (.int (0 : Int32)), .val .null, .unset] [(.int (0 : Int32)), (.ref a1)])) _
    refine st119 _ ?_
    show Steps p.tables e below (T119.setTop (mkF m 26 #[.val (.ref a1), .val (.ref ca), .val (.int (0 : Int32)), .val (.int (0 : Int32)), .val .null, .unset] [])) _
    exact X119.returnOut hx Bd.returns (hb hby dEV_26) hr
  · show QE Z a1 h0 n0 _ T119.heap _
    rw [e119]
    exact ⟨rfl, N119, KH123, E_a1_124, Fw119, _, _, Ne.symm ne_a1_t_s1, F_value_a1_125, V_t_s1_126⟩
  · show CHr Z own_EL s.vm s.heap T119.vm T119.heap
    rw [hh, e119]
    exact R122.trans (CHv.at X119 hZ hEL R122.1)
theorem dEC_0 : decode jdk_42_method_3_code 0 = .ok (.aload_n 0, 1) := by decide +kernel
theorem dEC_1 : decode jdk_42_method_3_code 1 = .ok (.aload_n 1, 1) := by decide +kernel
theorem dEC_2 : decode jdk_42_method_3_code 2 = .ok (.iconst 0, 1) := by decide +kernel
theorem dEC_3 : decode jdk_42_method_3_code 3 = .ok (.aload_n 1, 1) := by decide +kernel
theorem dEC_4 : decode jdk_42_method_3_code 4 = .ok (.arraylength, 1) := by decide +kernel
theorem dEC_5 : decode jdk_42_method_3_code 5 = .ok (.aconst_null, 1) := by decide +kernel
theorem dEC_6 : decode jdk_42_method_3_code 6 = .ok (.invokespecial 27, 3) := by decide +kernel
theorem dEC_9 : decode jdk_42_method_3_code 9 = .ok (.return_, 1) := by decide +kernel
theorem efEC (m : MethodId) (x0 : Addr) (x1 : Addr) : entryFrame m #[(.ref x0), (.ref x1)] 2 = mkF m 0 #[.val (.ref x0), .val (.ref x1)] [] := by first | (simp [entryFrame, mkF, argsToLocals, Value.category]; done) | rfl
set_option maxRecDepth 65536 in
set_option maxHeartbeats 40000000 in
theorem rmEC (l : Launch) (Z : State) (a0 : Array Value) (hw : ∀ d ∈ tables_1, d.before a0 Z = true) (ws : List Jvm.Cond) (a1 ca : Addr) (kc : ClassId) (u2 : Value) (h0 : Heap) (n0 : Nat) (g_a1 : n0 ≤ a1) (E_a1 : Exa Z h0 a1 "java/lang/String") (F_value_a1 : Fld Z h0 a1 "java/lang/String" "value" "[B" .null) (F_coder_a1 : Fld Z h0 a1 "java/lang/String" "coder" "B" u2) (VC : Arv Z h0 ca kc .char (0 : Int32) [] (.int (0 : Int32))) :
    MetFree l (⟨"java/lang/String", "<init>", "([C)V"⟩ : MethodName) (head1 (Jvm.Cond.code (⟨"java/lang/String", "<init>", "([C)V"⟩ : MethodName) jdk_42_method_3_code 2 none :: ws) ({ frames := 2, cells := 4, slots := 8, locals := 29 } : Room)) (fun a U => a = #[(.ref a1), (.ref ca)] ∧ Z.Warmed39 U.vm ∧ U.heap = h0 ∧ CHv Z own_EL U.vm h0) (fun _ _ _ _ _ => True) (fun _ U o U' => ∃ v L, o = .returned v ∧ QE Z a1 h0 n0 v U'.heap L ∧ CHr Z own_EL U.vm U.heap U'.vm U'.heap ∧ ReturnedEndW U o U' L ({ frames := 2, cells := 4, slots := 8, locals := 29 } : Room).cells ({ frames := 2, cells := 4, slots := 8, locals := 29 } : Room).slots) := by
  refine MetFree.of_bodySF (plainFor_of_name pnST) hisR ?_
  intro p e s m args below meth c s₁ Bd hml0 hP hK
  obtain ⟨rfl, hZ, hh, HC⟩ := hP
  have hx := Bd.exec
  have hby := Bd.bytes
  have hml : c.maxLocals = 2 := hml0
  have hown : s.vm.findClass "java/lang/String" = some m.cls := findClass_of_methodNamed Bd.named
  have hnm := (name_of_methodNamed Bd.named Bd.method).1
  have X0 : Stand p l e ({ frames := 2, cells := 4, slots := 8, locals := 29 } : Room) (s.setVm s.vm) m #[(.ref a1), (.ref ca)] below meth c s₁ [] 0 0 := Stand.of_body Bd
  have e0 : s₁.heap = h0 := by rw [← hh, Bd.state]; rfl
  have N0 := Fr.nil n0
  have go0 : ∀ t, Steps p.tables e below (s₁.setTop (mkF m 0 #[.val (.ref a1), .val (.ref ca)] [])) t → Steps p.tables e below (s₁.setTop (entryFrame m #[(.ref a1), (.ref ca)] 2)) t := fun t k => castTop (efEC m a1 ca) k
  have hEL : EW Z a0 own_EL := own_hEL hw
  have hsA : ∀ a ∈ Bundle.stringAtoms, a.before a0 Z = true := own_hsA hw
  have R0 : CHr Z own_EL s.vm h0 s.vm h0 := CHr.refl HC
  have hS0 : s.Since s.vm s.heap.size := (State.WarmedH.refl s).since _
  have hk0 : s.heap.size ≤ h0.size := Nat.le_of_eq (by rw [hh])
  obtain ⟨cl101, Ar101, q101, S101, M101, Hh101, G101⟩ := id VC
  have go103 : ∀ t, Steps p.tables e below (s₁.setTop (mkF m 6 #[.val (.ref a1), .val (.ref ca)] [.null, (.int (0 : Int32)), (.int (0 : Int32)), (.ref ca), (.ref a1)])) t → Steps p.tables e below (s₁.setTop (entryFrame m #[(.ref a1), (.ref ca)] 2)) t := fun t k => go0 t (by
      show Steps p.tables e below (s₁.setTop (mkF m 0 #[.val (.ref a1), .val (.ref ca)] [])) _
      refine XS.aloadN X0.here hx rfl (hb hby dEC_0) rfl rfl ?_
      show Steps p.tables e below (s₁.setTop (mkF m 1 #[.val (.ref a1), .val (.ref ca)] [(.ref a1)])) _
      refine XS.aloadN X0.here hx rfl (hb hby dEC_1) rfl rfl ?_
      show Steps p.tables e below (s₁.setTop (mkF m 2 #[.val (.ref a1), .val (.ref ca)] [(.ref ca), (.ref a1)])) _
      refine XS.iconst X0.here hx rfl (hb hby dEC_2) ?_
      show Steps p.tables e below (s₁.setTop (mkF m 3 #[.val (.ref a1), .val (.ref ca)] [(.int (0 : Int32)), (.ref ca), (.ref a1)])) _
      refine XS.aloadN X0.here hx rfl (hb hby dEC_3) rfl rfl ?_
      show Steps p.tables e below (s₁.setTop (mkF m 4 #[.val (.ref a1), .val (.ref ca)] [(.ref ca), (.int (0 : Int32)), (.ref ca), (.ref a1)])) _
      refine X0.arraylength hx (by rw [e0]; exact Ar101.1) (State.isArrayOf_alike hZ.alike Ar101.2.1) (g := (mkF m 4 #[.val (.ref a1), .val (.ref ca)] [(.ref ca), (.int (0 : Int32)), (.ref ca), (.ref a1)])) rfl rfl (hb hby dEC_4) _ ?_
      rw [len_of S101 M101]
      show Steps p.tables e below (s₁.setTop (mkF m 5 #[.val (.ref a1), .val (.ref ca)] [(.int (0 : Int32)), (.int (0 : Int32)), (.ref ca), (.ref a1)])) _
      refine XS.aconstNull X0.here hx rfl (hb hby dEC_5) ?_
      exact k)
  obtain ⟨_, _, ⟨T102, L102, kk102, nn102⟩, -, Y102, hT102, gr102, ⟨Lc102, hQ102, l102, y102, z102, C102⟩, st102⟩ := X0.specialBackS hx (y := (⟨"java/lang/String", "<init>", "([CIILjava/lang/Void;)V"⟩ : MethodName)) rfl hown (mvT hZ (hw _ (List.mem_of_getElem? (i := 12) rfl))) (mvT hZ (hw _ (List.mem_of_getElem? (i := 13) rfl))) (mvT hZ (hw _ (List.mem_of_getElem? (i := 15) rfl))) (by decide) (backOfSH (W := 0) (rmEV l Z a0 hw [] a1 ca u2 h0 n0 g_a1 E_a1 F_value_a1 F_coder_a1) hZ (hw _ (List.mem_of_getElem? (i := 15) rfl)) (hw _ (List.mem_of_getElem? (i := 7) rfl)) (by decide) (by decide) hEL R0.1) (g := (mkF m 6 #[.val (.ref a1), .val (.ref ca)] [.null, (.int (0 : Int32)), (.int (0 : Int32)), (.ref ca), (.ref a1)])) rfl (by rw [hml]; rfl) (Steps.refl _) (a := a1) (argsL := [(.ref ca), (.int (0 : Int32)), (.int (0 : Int32)), .null]) (rest := []) (lenOf pd___CIILjava_lang_Void__V rfl) rfl (by show 2 * 0 + _ ≤ _; exact Nat.le_of_eq rfl) (hb hby dEC_6) (fun _ _ => ⟨rfl, e0, Nat.le_of_ble_eq_true rfl, Nat.le_of_ble_eq_true rfl⟩)
  dsimp only [Pt.U, Pt.locs, Pt.cells, Pt.slots] at Y102 hT102 gr102 l102 y102 z102 C102 st102 hQ102
  subst l102 y102 z102
  obtain ⟨X102, hS102, hZ, hown⟩ := rebS hS0 (by rw [e0]; exact hk0) Y102 hT102 gr102 hZ hown
  have hk102 := Nat.le_refl T102.heap.size
  obtain ⟨rfl, Nq102, K102, rQ102⟩ := hQ102
  have N102 := Fr.app N0 Nq102
  have R104 := R0.trans C102
  obtain ⟨fs, hr, hrun, hended, hRE⟩ := X102.leaveW hS102 hk102 (v := none) (fun _ => rfl)
  refine ⟨_, _, go103 _ ?_, hrun, hended, _, _, rfl, ?_, ?_, hRE.1, hRE.2.1, hRE.2.2.1, hRE.2.2.2.mono (by decide) (by decide)⟩
  · show Steps p.tables e below (s₁.setTop (mkF m 6 #[.val (.ref a1), .val (.ref ca)] [.null, (.int (0 : Int32)), (.int (0 : Int32)), (.ref ca), (.ref a1)])) _
    refine st102.trans ?_
    show Steps p.tables e below (T102.setTop (mkF m 9 #[.val (.ref a1), .val (.ref ca)] [])) _
    exact X102.returnOut hx Bd.returns (hb hby dEC_9) hr
  · show QE Z a1 h0 n0 _ T102.heap _
    exact ⟨rfl, N102, K102, rQ102⟩
  · show CHr Z own_EL s.vm s.heap T102.vm T102.heap
    rw [hh]
    exact R104.trans (CHv.at X102 hZ hEL R104.1)
theorem dX_0 : decode method_3_code 0 = .ok (.iload_n 0, 1) := by decide +kernel
theorem dX_1 : decode method_3_code 1 = .ok (.ifCond .ne 14, 3) := by decide +kernel
theorem dX_4 : decode method_3_code 4 = .ok (.new 61, 3) := by decide +kernel
theorem dX_7 : decode method_3_code 7 = .ok (.dup, 1) := by decide +kernel
theorem dX_8 : decode method_3_code 8 = .ok (.iconst 0, 1) := by decide +kernel
theorem dX_9 : decode method_3_code 9 = .ok (.newarray .char, 2) := by decide +kernel
theorem dX_11 : decode method_3_code 11 = .ok (.invokespecial 63, 3) := by decide +kernel
theorem dX_14 : decode method_3_code 14 = .ok (.areturn, 1) := by decide +kernel
theorem dX_15 : decode method_3_code 15 = .ok (.iload_n 0, 1) := by decide +kernel
theorem dX_16 : decode method_3_code 16 = .ok (.iconst 1, 1) := by decide +kernel
theorem dX_17 : decode method_3_code 17 = .ok (.if_icmp .ne 18, 3) := by decide +kernel
theorem dX_20 : decode method_3_code 20 = .ok (.new 61, 3) := by decide +kernel
theorem dX_23 : decode method_3_code 23 = .ok (.dup, 1) := by decide +kernel
theorem dX_24 : decode method_3_code 24 = .ok (.iconst 1, 1) := by decide +kernel
theorem dX_25 : decode method_3_code 25 = .ok (.newarray .char, 2) := by decide +kernel
theorem dX_27 : decode method_3_code 27 = .ok (.dup, 1) := by decide +kernel
theorem dX_28 : decode method_3_code 28 = .ok (.iconst 0, 1) := by decide +kernel
theorem dX_29 : decode method_3_code 29 = .ok (.iload_n 1, 1) := by decide +kernel
theorem dX_30 : decode method_3_code 30 = .ok (.castore, 1) := by decide +kernel
theorem dX_31 : decode method_3_code 31 = .ok (.invokespecial 63, 3) := by decide +kernel
theorem dX_34 : decode method_3_code 34 = .ok (.areturn, 1) := by decide +kernel
theorem dX_35 : decode method_3_code 35 = .ok (.new 61, 3) := by decide +kernel
theorem dX_38 : decode method_3_code 38 = .ok (.dup, 1) := by decide +kernel
theorem dX_39 : decode method_3_code 39 = .ok (.iconst 2, 1) := by decide +kernel
theorem dX_40 : decode method_3_code 40 = .ok (.newarray .char, 2) := by decide +kernel
theorem dX_42 : decode method_3_code 42 = .ok (.dup, 1) := by decide +kernel
theorem dX_43 : decode method_3_code 43 = .ok (.iconst 0, 1) := by decide +kernel
theorem dX_44 : decode method_3_code 44 = .ok (.iload_n 1, 1) := by decide +kernel
theorem dX_45 : decode method_3_code 45 = .ok (.castore, 1) := by decide +kernel
theorem dX_46 : decode method_3_code 46 = .ok (.dup, 1) := by decide +kernel
theorem dX_47 : decode method_3_code 47 = .ok (.iconst 1, 1) := by decide +kernel
theorem dX_48 : decode method_3_code 48 = .ok (.iload_n 2, 1) := by decide +kernel
theorem dX_49 : decode method_3_code 49 = .ok (.castore, 1) := by decide +kernel
theorem dX_50 : decode method_3_code 50 = .ok (.invokespecial 63, 3) := by decide +kernel
theorem dX_53 : decode method_3_code 53 = .ok (.areturn, 1) := by decide +kernel
theorem pnL : plainName "com/example/tramway/tramway/idl/TokenIsPinLaw" = true := by first | (simp [plainName, overriddenIn]; done) | decide +kernel
theorem efX (m : MethodId) (x0 : Int32) (x1 : Int32) (x2 : Int32) : entryFrame m #[(.int x0), (.int x1), (.int x2)] 3 = mkF m 0 #[.val (.int x0), .val (.int x1), .val (.int x2)] [] := by first | (simp [entryFrame, mkF, argsToLocals, Value.category]; done) | rfl
def own_cl (l c0 c1 : Int32) : List Int32 := if l = 0 then [] else if l = 1 then [nar .char c0] else [nar .char c0, nar .char c1]
def QX (Z : State) (cs : List Int32) (h0 : Heap) (n0 : Nat) (v : Option Value) (h : Heap) (L : List Loc) : Prop := ∃ (x t : Addr) (k : ClassId), v = some (.ref x) ∧ Fr n0 L ∧ Keep h0 h [] ∧ n0 ≤ x ∧ h0.size ≤ x ∧ Exa Z h x "java/lang/String" ∧ Fld Z h x "java/lang/String" "value" "[B" (.ref t) ∧ Fld Z h x "java/lang/String" "coder" "B" (.int (0 : Int32)) ∧ Arv Z h t k .byte (Int32.ofNat cs.length) ((cs.map (fun c => c.toInt8.toInt32)).map Value.int) (.int (0 : Int32))
set_option maxRecDepth 65536 in
set_option maxHeartbeats 40000000 in
theorem rmX_0 (l : Launch) (Z : State) (a0 : Array Value) (hw : ∀ d ∈ tables_1, d.before a0 Z = true) (ws : List Jvm.Cond) (ln c0 c1 G1 : Int32) (h0 : Heap) (n0 : Nat) (Z0 : n0 ≤ h0.size) (O2 : Sta Z Z.heap "java/lang/String" "COMPACT_STRINGS" "Z" (.int G1)) (P5 : ¬ (G1 = (0 : Int32))) (X00 : Old Z n0 h0) (b0 : ¬ nar .char c0 < 0 ∧ ¬ (255 : Int32) < nar .char c0) (b1 : ¬ nar .char c1 < 0 ∧ ¬ (255 : Int32) < nar .char c1) (q0 : ln = 0) :
    MetFree l (⟨"com/example/tramway/tramway/idl/TokenIsPinLaw", "text", "(ICC)Ljava/lang/String;"⟩ : MethodName) (head1 (Jvm.Cond.code (⟨"com/example/tramway/tramway/idl/TokenIsPinLaw", "text", "(ICC)Ljava/lang/String;"⟩ : MethodName) method_3_code 3 (some (.object "java/lang/String")) :: ws) ({ frames := 4, cells := 6, slots := 14, locals := 66 } : Room)) (fun a U => a = #[(.int ln), (.int c0), (.int c1)] ∧ Z.Warmed39 U.vm ∧ U.heap = h0 ∧ CHv Z own_EL U.vm h0) (fun _ _ _ _ _ => True) (fun _ U o U' => ∃ v L, o = .returned v ∧ QX Z [] h0 n0 v U'.heap L ∧ CHr Z own_EL U.vm U.heap U'.vm U'.heap ∧ ReturnedEndW U o U' L ({ frames := 4, cells := 6, slots := 14, locals := 66 } : Room).cells ({ frames := 4, cells := 6, slots := 14, locals := 66 } : Room).slots) := by
  refine MetFree.of_bodySF (plainFor_of_name pnL) hisR ?_
  intro p e s m args below meth c s₁ Bd hml0 hP hK
  obtain ⟨rfl, hZ, hh, HC⟩ := hP
  have hx := Bd.exec
  have hby := Bd.bytes
  have hml : c.maxLocals = 3 := hml0
  have hown : s.vm.findClass "com/example/tramway/tramway/idl/TokenIsPinLaw" = some m.cls := findClass_of_methodNamed Bd.named
  have hnm := (name_of_methodNamed Bd.named Bd.method).1
  have X0 : Stand p l e ({ frames := 4, cells := 6, slots := 14, locals := 66 } : Room) (s.setVm s.vm) m #[(.int ln), (.int c0), (.int c1)] below meth c s₁ [] 0 0 := Stand.of_body Bd
  have e0 : s₁.heap = h0 := by rw [← hh, Bd.state]; rfl
  have N0 := Fr.nil n0
  have go0 : ∀ t, Steps p.tables e below (s₁.setTop (mkF m 0 #[.val (.int ln), .val (.int c0), .val (.int c1)] [])) t → Steps p.tables e below (s₁.setTop (entryFrame m #[(.int ln), (.int c0), (.int c1)] 3)) t := fun t k => castTop (efX m ln c0 c1) k
  have hEL : EW Z a0 own_EL := own_hEL hw
  have hsA : ∀ a ∈ Bundle.stringAtoms, a.before a0 Z = true := own_hsA hw
  have R0 : CHr Z own_EL s.vm h0 s.vm h0 := CHr.refl HC
  have hS0 : s.Since s.vm s.heap.size := (State.WarmedH.refl s).since _
  have hk0 : s.heap.size ≤ h0.size := Nat.le_of_eq (by rw [hh])
  have KH0 : Keep h0 h0 [] := Keep.refl h0 []
  have hws : ∀ d ∈ StrChars.Road.words, d.before a0 Z = true := fun d hd => hw d ((by decide +kernel : ∀ d ∈ StrChars.Road.words, d ∈ tables_1) d hd)
  obtain ⟨T101, h101, X101, e101, E101, A101, D101, -, st101⟩ := newO X0 hx hZ hown (hw _ (List.mem_of_getElem? (i := 5) rfl)) (hw _ (List.mem_of_getElem? (i := 6) rfl)) (hw _ (List.mem_of_getElem? (i := 7) rfl)) e0 (g := (mkF m 4 #[.val (.int ln), .val (.int c0), .val (.int c1)] [])) rfl (hb hby dX_4) (by decide) (by decide)
  obtain ⟨x, g101⟩ : ∃ z, z = h0.size := ⟨_, rfl⟩
  rw [← g101] at A101 D101 st101
  have sz_x : h0.size ≤ x := Nat.le_trans KH0.1 (Nat.le_of_eq g101.symm)
  have g_x : n0 ≤ x := Nat.le_trans Z0 (Nat.le_of_eq g101.symm)
  have F_value_x : Fld Z h101 x "java/lang/String" "value" "[B" .null := D101 (Or.inr (hw _ (List.mem_of_getElem? (i := 21) rfl))) (ty := (.array .byte)) (by decide)
  have F_coder_x : Fld Z h101 x "java/lang/String" "coder" "B" (.int (0 : Int32)) := D101 (Or.inr (hw _ (List.mem_of_getElem? (i := 22) rfl))) (ty := .byte) (by decide)
  have K101 : Keep h0 h101 [] := (Keep.refl _ []).ext E101
  have hs102 : ∀ sx_ ∈ ([] : List Addr), Safe Z own_EL s.vm h0 sx_ := all0
  have R102 := R0.trans (CHr.keep K101 hs102 R0.1)
  have KH103 : Keep h0 h101 [] := KH0.trans K101 all0
  have lt_x : x < h101.size := A101.lt
  obtain ⟨T104, h104, k104, X104, e104, E104, A104, st104⟩ := newP X101 hx hZ (hw _ (List.mem_of_getElem? (i := 8) rfl)) e101 (g := (mkF m 9 #[.val (.int ln), .val (.int c0), .val (.int c1)] [(.int (0 : Int32)), (.ref x), (.ref x)])) rfl (hb hby dX_9) rfl (by decide) (cap := 0) (by decide) (by decide) (by decide) (by decide)
  obtain ⟨ca, g104⟩ : ∃ z, z = h101.size := ⟨_, rfl⟩
  rw [← g104] at A104 st104
  have Z_105 := (Nat.le_trans Z0 K101.1)
  have sz_ca : h0.size ≤ ca := Nat.le_trans KH103.1 (Nat.le_of_eq g104.symm)
  have g_ca : n0 ≤ ca := Nat.le_trans Z_105 (Nat.le_of_eq g104.symm)
  have ne_x_ca : x ≠ ca := (Nat.ne_of_lt (Nat.lt_of_lt_of_le lt_x (Nat.le_of_eq g104.symm)))
  have V_ca : Arv Z h104 ca k104 .char (0 : Int32) [] (.int (0 : Int32)) := (Arv.new A104 (by decide)).pad (pad_rep [] (.int (0 : Int32)) 0)
  have K104 : Keep h101 h104 [] := (Keep.refl _ []).ext E104
  have hs106 : ∀ sx_ ∈ ([] : List Addr), Safe Z own_EL s.vm h101 sx_ := all0
  have R106 := R102.trans (CHr.keep K104 hs106 R102.1)
  have KH107 : Keep h0 h104 [] := KH103.trans K104 all0
  have lt_ca : ca < h104.size := V_ca.lt
  have E_x_108 := (A101.keep K104)
  have F_value_x_109 := (F_value_x.keep K104 nin0)
  have F_coder_x_110 := (F_coder_x.keep K104 nin0)
  have HK_112 := (Nat.le_trans (Nat.le_trans hk0 K101.1) K104.1)
  have go113 : ∀ t, Steps p.tables e below (T104.setTop (mkF m 11 #[.val (.int ln), .val (.int c0), .val (.int c1)] [(.ref ca), (.ref x), (.ref x)])) t → Steps p.tables e below (s₁.setTop (entryFrame m #[(.int ln), (.int c0), (.int c1)] 3)) t := fun t k => go0 t (by
      show Steps p.tables e below (s₁.setTop (mkF m 0 #[.val (.int ln), .val (.int c0), .val (.int c1)] [])) _
      refine XS.iloadN X0.here hx rfl (hb hby dX_0) rfl ?_
      show Steps p.tables e below (s₁.setTop (mkF m 1 #[.val (.int ln), .val (.int c0), .val (.int c1)] [(.int ln)])) _
      refine XS.ifNo X0.here hx rfl (hb hby dX_1) rfl ((if0 _ _).trans (teq (q0 : ln = (0 : Int32))).2) ?_
      show Steps p.tables e below (s₁.setTop (mkF m 4 #[.val (.int ln), .val (.int c0), .val (.int c1)] [])) _
      refine st101 _ ?_
      show Steps p.tables e below (T101.setTop (mkF m 7 #[.val (.int ln), .val (.int c0), .val (.int c1)] [(.ref x)])) _
      refine XS.dup X101.here hx rfl (hb hby dX_7) rfl rfl ?_
      show Steps p.tables e below (T101.setTop (mkF m 8 #[.val (.int ln), .val (.int c0), .val (.int c1)] [(.ref x), (.ref x)])) _
      refine XS.iconst X101.here hx rfl (hb hby dX_8) ?_
      show Steps p.tables e below (T101.setTop (mkF m 9 #[.val (.int ln), .val (.int c0), .val (.int c1)] [(.int (0 : Int32)), (.ref x), (.ref x)])) _
      refine st104 _ ?_
      exact k)
  obtain ⟨_, _, ⟨T111, L111, kk111, nn111⟩, -, Y111, hT111, gr111, ⟨Lc111, hQ111, l111, y111, z111, C111⟩, st111⟩ := X104.specialBackS hx (y := (⟨"java/lang/String", "<init>", "([C)V"⟩ : MethodName)) rfl hown (mvT hZ (hw _ (List.mem_of_getElem? (i := 9) rfl))) (mvT hZ (hw _ (List.mem_of_getElem? (i := 10) rfl))) (mvT hZ (hw _ (List.mem_of_getElem? (i := 11) rfl))) (by decide) (backOfSH (W := 1) (rmEC l Z a0 hw [] x ca k104 _ h104 n0 g_x E_x_108 F_value_x_109 F_coder_x_110 V_ca) hZ (hw _ (List.mem_of_getElem? (i := 11) rfl)) (hw _ (List.mem_of_getElem? (i := 7) rfl)) (by decide) (by decide) hEL R106.1) (g := (mkF m 11 #[.val (.int ln), .val (.int c0), .val (.int c1)] [(.ref ca), (.ref x), (.ref x)])) rfl (by rw [hml]; rfl) (Steps.refl _) (a := x) (argsL := [(.ref ca)]) (rest := [(.ref x)]) (lenOf pd___C_V rfl) rfl (by show 2 * 0 + _ ≤ _; exact Nat.le_of_eq rfl) (hb hby dX_11) (fun _ _ => ⟨rfl, e104, Nat.le_of_ble_eq_true rfl, Nat.le_of_ble_eq_true rfl⟩)
  dsimp only [Pt.U, Pt.locs, Pt.cells, Pt.slots] at Y111 hT111 gr111 l111 y111 z111 C111 st111 hQ111
  subst l111 y111 z111
  obtain ⟨X111, hS111, hZ, hown⟩ := rebS hS0 (by rw [e104]; exact HK_112) Y111 hT111 gr111 hZ hown
  have hk111 := Nat.le_refl T111.heap.size
  obtain ⟨rfl, Nq111, K111, Eq111, Fc111, t111, kb111, -, Fv111, Vt111⟩ := hQ111
  have N111 := Fr.app N0 Nq111
  have R114 := R106.trans C111
  have KH115 : Keep h0 T111.heap [] := KH107.trans K111 (allS (Or.inr sz_x) all0)
  obtain ⟨fs, hr, hrun, hended, hRE⟩ := X111.leaveW hS111 hk111 (v := some (.ref x)) (fun h => by rw [Bd.returns] at h; cases h)
  refine ⟨_, _, go113 _ ?_, hrun, hended, _, _, rfl, ?_, ?_, hRE.1, hRE.2.1, hRE.2.2.1, hRE.2.2.2.mono (by decide) (by decide)⟩
  · show Steps p.tables e below (T104.setTop (mkF m 11 #[.val (.int ln), .val (.int c0), .val (.int c1)] [(.ref ca), (.ref x), (.ref x)])) _
    refine st111.trans ?_
    show Steps p.tables e below (T111.setTop (mkF m 14 #[.val (.int ln), .val (.int c0), .val (.int c1)] [(.ref x)])) _
    jvm_step X111.here [X111.here.top, hx, (hb hby dX_14), X111.method', Bd.returns, Value.isRef, FieldType.isReference]
    first | (intro acts; rw [hr _ acts rfl rfl rfl]) | rw [hr _ _ rfl rfl rfl]
    exact Steps.refl _
  · show QX Z [] h0 n0 _ T111.heap _
    exact ⟨_, _, _, rfl, N111, KH115, g_x, sz_x, Eq111, Fv111, Fc111, Vt111⟩
  · show CHr Z own_EL s.vm s.heap T111.vm T111.heap
    rw [hh]
    exact R114.trans (CHv.at X111 hZ hEL R114.1)
set_option maxRecDepth 65536 in
set_option maxHeartbeats 40000000 in
theorem rmX_1 (l : Launch) (Z : State) (a0 : Array Value) (hw : ∀ d ∈ tables_1, d.before a0 Z = true) (ws : List Jvm.Cond) (ln c0 c1 G1 : Int32) (h0 : Heap) (n0 : Nat) (Z0 : n0 ≤ h0.size) (O2 : Sta Z Z.heap "java/lang/String" "COMPACT_STRINGS" "Z" (.int G1)) (P5 : ¬ (G1 = (0 : Int32))) (X00 : Old Z n0 h0) (b0 : ¬ nar .char c0 < 0 ∧ ¬ (255 : Int32) < nar .char c0) (b1 : ¬ nar .char c1 < 0 ∧ ¬ (255 : Int32) < nar .char c1) (q0 : ¬ (ln = 0)) (q1 : ln = 1) :
    MetFree l (⟨"com/example/tramway/tramway/idl/TokenIsPinLaw", "text", "(ICC)Ljava/lang/String;"⟩ : MethodName) (head1 (Jvm.Cond.code (⟨"com/example/tramway/tramway/idl/TokenIsPinLaw", "text", "(ICC)Ljava/lang/String;"⟩ : MethodName) method_3_code 3 (some (.object "java/lang/String")) :: ws) ({ frames := 4, cells := 6, slots := 14, locals := 66 } : Room)) (fun a U => a = #[(.int ln), (.int c0), (.int c1)] ∧ Z.Warmed39 U.vm ∧ U.heap = h0 ∧ CHv Z own_EL U.vm h0) (fun _ _ _ _ _ => True) (fun _ U o U' => ∃ v L, o = .returned v ∧ QX Z [nar .char c0] h0 n0 v U'.heap L ∧ CHr Z own_EL U.vm U.heap U'.vm U'.heap ∧ ReturnedEndW U o U' L ({ frames := 4, cells := 6, slots := 14, locals := 66 } : Room).cells ({ frames := 4, cells := 6, slots := 14, locals := 66 } : Room).slots) := by
  refine MetFree.of_bodySF (plainFor_of_name pnL) hisR ?_
  intro p e s m args below meth c s₁ Bd hml0 hP hK
  obtain ⟨rfl, hZ, hh, HC⟩ := hP
  have hx := Bd.exec
  have hby := Bd.bytes
  have hml : c.maxLocals = 3 := hml0
  have hown : s.vm.findClass "com/example/tramway/tramway/idl/TokenIsPinLaw" = some m.cls := findClass_of_methodNamed Bd.named
  have hnm := (name_of_methodNamed Bd.named Bd.method).1
  have X0 : Stand p l e ({ frames := 4, cells := 6, slots := 14, locals := 66 } : Room) (s.setVm s.vm) m #[(.int ln), (.int c0), (.int c1)] below meth c s₁ [] 0 0 := Stand.of_body Bd
  have e0 : s₁.heap = h0 := by rw [← hh, Bd.state]; rfl
  have N0 := Fr.nil n0
  have go0 : ∀ t, Steps p.tables e below (s₁.setTop (mkF m 0 #[.val (.int ln), .val (.int c0), .val (.int c1)] [])) t → Steps p.tables e below (s₁.setTop (entryFrame m #[(.int ln), (.int c0), (.int c1)] 3)) t := fun t k => castTop (efX m ln c0 c1) k
  have hEL : EW Z a0 own_EL := own_hEL hw
  have hsA : ∀ a ∈ Bundle.stringAtoms, a.before a0 Z = true := own_hsA hw
  have R0 : CHr Z own_EL s.vm h0 s.vm h0 := CHr.refl HC
  have hS0 : s.Since s.vm s.heap.size := (State.WarmedH.refl s).since _
  have hk0 : s.heap.size ≤ h0.size := Nat.le_of_eq (by rw [hh])
  have KH0 : Keep h0 h0 [] := Keep.refl h0 []
  have hws : ∀ d ∈ StrChars.Road.words, d.before a0 Z = true := fun d hd => hw d ((by decide +kernel : ∀ d ∈ StrChars.Road.words, d ∈ tables_1) d hd)
  obtain ⟨T101, h101, X101, e101, E101, A101, D101, -, st101⟩ := newO X0 hx hZ hown (hw _ (List.mem_of_getElem? (i := 5) rfl)) (hw _ (List.mem_of_getElem? (i := 6) rfl)) (hw _ (List.mem_of_getElem? (i := 7) rfl)) e0 (g := (mkF m 20 #[.val (.int ln), .val (.int c0), .val (.int c1)] [])) rfl (hb hby dX_20) (by decide) (by decide)
  obtain ⟨x, g101⟩ : ∃ z, z = h0.size := ⟨_, rfl⟩
  rw [← g101] at A101 D101 st101
  have sz_x : h0.size ≤ x := Nat.le_trans KH0.1 (Nat.le_of_eq g101.symm)
  have g_x : n0 ≤ x := Nat.le_trans Z0 (Nat.le_of_eq g101.symm)
  have F_value_x : Fld Z h101 x "java/lang/String" "value" "[B" .null := D101 (Or.inr (hw _ (List.mem_of_getElem? (i := 21) rfl))) (ty := (.array .byte)) (by decide)
  have F_coder_x : Fld Z h101 x "java/lang/String" "coder" "B" (.int (0 : Int32)) := D101 (Or.inr (hw _ (List.mem_of_getElem? (i := 22) rfl))) (ty := .byte) (by decide)
  have K101 : Keep h0 h101 [] := (Keep.refl _ []).ext E101
  have hs102 : ∀ sx_ ∈ ([] : List Addr), Safe Z own_EL s.vm h0 sx_ := all0
  have R102 := R0.trans (CHr.keep K101 hs102 R0.1)
  have KH103 : Keep h0 h101 [] := KH0.trans K101 all0
  have lt_x : x < h101.size := A101.lt
  obtain ⟨T104, h104, k104, X104, e104, E104, A104, st104⟩ := newP X101 hx hZ (hw _ (List.mem_of_getElem? (i := 8) rfl)) e101 (g := (mkF m 25 #[.val (.int ln), .val (.int c0), .val (.int c1)] [(.int (1 : Int32)), (.ref x), (.ref x)])) rfl (hb hby dX_25) rfl (by decide) (cap := 1) (by decide) (by decide) (by decide) (by decide)
  obtain ⟨ca, g104⟩ : ∃ z, z = h101.size := ⟨_, rfl⟩
  rw [← g104] at A104 st104
  have Z_105 := (Nat.le_trans Z0 K101.1)
  have sz_ca : h0.size ≤ ca := Nat.le_trans KH103.1 (Nat.le_of_eq g104.symm)
  have g_ca : n0 ≤ ca := Nat.le_trans Z_105 (Nat.le_of_eq g104.symm)
  have ne_x_ca : x ≠ ca := (Nat.ne_of_lt (Nat.lt_of_lt_of_le lt_x (Nat.le_of_eq g104.symm)))
  have V_ca : Arv Z h104 ca k104 .char (1 : Int32) [(.int (0 : Int32))] (.int (0 : Int32)) := (Arv.new A104 (by decide)).pad (pad_rep [] (.int (0 : Int32)) 1)
  have K104 : Keep h101 h104 [] := (Keep.refl _ []).ext E104
  have hs106 : ∀ sx_ ∈ ([] : List Addr), Safe Z own_EL s.vm h101 sx_ := all0
  have R106 := R102.trans (CHr.keep K104 hs106 R102.1)
  have KH107 : Keep h0 h104 [] := KH103.trans K104 all0
  have lt_ca : ca < h104.size := V_ca.lt
  obtain ⟨cl108, Ar108, q108, S108, M108, Hh108, G108⟩ := id V_ca
  obtain ⟨T108, h108, X108, e108, W108, st108⟩ := stC X104 hx hZ e104 Ar108 (j := (0 : Int32)) (inb_of S108 ⟨by decide, by decide⟩) (g := (mkF m 30 #[.val (.int ln), .val (.int c0), .val (.int c1)] [(.int c0), (.int (0 : Int32)), (.ref ca), (.ref ca), (.ref x), (.ref x)])) rfl rfl (hb hby dX_30)
  have V_ca_108 : Arv Z h108 ca k104 .char (1 : Int32) [(.int (nar .char c0))] (.int (0 : Int32)) := Arv.set Ar108 q108 S108 M108 Hh108 G108 (fits_nar_char _) W108 0 rfl (Nat.le_of_ble_eq_true rfl)
  have K108 : Keep h104 h108 [ca] := Keep.of_wr W108
  have hs109 : ∀ sx_ ∈ ([ca] : List Addr), Safe Z own_EL s.vm h104 sx_ := (allS (Safe.arr hZ.alike Ar108 (by decide)) all0)
  have R109 := R106.trans (CHr.keep K108 hs109 R106.1)
  have KH110 : Keep h0 h108 [] := KH107.trans K108 (allS (Or.inr sz_ca) all0)
  have N108 := Fr.snoc X108 N0 g_ca
  have E_x_111 := ((A101.keep K104).keep K108)
  have F_value_x_112 := ((F_value_x.keep K104 nin0).keep K108 (ninS ne_x_ca nin0))
  have sfx : Safe Z own_EL s.vm h108 x := own_safe_null hZ.alike E_x_111 F_value_x_112 (hw _ (List.mem_of_getElem? (i := 6) rfl))
  have hp113 : ∀ c ∈ ([nar .char c0] : List Int32), ¬ c < 0 ∧ ¬ (255 : Int32) < c := by
    intro c hc
    simp only [List.mem_cons, List.not_mem_nil, or_false] at hc
    subst hc
    exact b0
  have Z_114 := (Nat.le_trans (Nat.le_trans Z_105 K104.1) K108.1)
  have O_115 := (((X00.keep K101 all0).keep K104 all0).keep K108 (allS g_ca all0))
  have F_coder_x_116 := ((F_coder_x.keep K104 nin0).keep K108 (ninS ne_x_ca nin0))
  obtain ⟨_, _, ⟨T117, L117, kk117, nn117⟩, -, X117, ⟨Lc117, hQ117, l117, y117, z117⟩, st117⟩ := X108.specialBack hx (y := (⟨"java/lang/String", "<init>", "([C)V"⟩ : MethodName)) rfl hown (mvT hZ (hw _ (List.mem_of_getElem? (i := 9) rfl))) (mvT hZ (hw _ (List.mem_of_getElem? (i := 10) rfl))) (mvT hZ (hw _ (List.mem_of_getElem? (i := 11) rfl))) (by decide) (StrChars.Road.backV (W := 1) hZ hws (kI := 4) (hw _ (List.mem_of_getElem? (i := 6) rfl)) (cs := ([nar .char c0] : List Int32)) (bs := ([nar .char c0] : List Int32).map (fun c => c.toInt8.toInt32)) (n := 1) g_x Z_114 E_x_111 F_value_x_112 F_coder_x_116 V_ca_108 (O2.ext O_115.2) P5 rfl rfl (by decide) (by decide) hp113 rfl (by decide) (by decide)) (g := (mkF m 31 #[.val (.int ln), .val (.int c0), .val (.int c1)] [(.ref ca), (.ref x), (.ref x)])) rfl (by rw [hml]; rfl) (Steps.refl _) (a := x) (argsL := [(.ref ca)]) (rest := [(.ref x)]) (lenOf pd___C_V rfl) rfl (by show 2 * 0 + _ ≤ _; exact Nat.le_of_eq rfl) (hb hby dX_31) (fun _ _ => ⟨rfl, e108, Nat.le_of_ble_eq_true rfl, Nat.le_of_ble_eq_true rfl⟩)
  dsimp only [Pt.U, Pt.locs, Pt.cells, Pt.slots] at X117 l117 y117 z117 st117 hQ117
  subst l117 y117 z117
  obtain ⟨rfl, Nq117, K117, Eq117, Fc117, t117, kb117, g_t117, le117, nx117, Fv117, V_t117⟩ := hQ117
  have N117 := Fr.app N108 Nq117
  have hs118 : ∀ sx_ ∈ ([x] : List Addr), Safe Z own_EL s.vm h108 sx_ := (allS sfx all0)
  have R118 := R109.trans (CHr.keep K117 hs118 R109.1)
  have KH119 : Keep h0 T117.heap [] := KH110.trans K117 (allS (Or.inr sz_x) all0)
  have lt_x_120 := (Nat.lt_of_lt_of_le (Nat.lt_of_lt_of_le lt_x K104.1) K108.1)
  have ne_x_t117 : x ≠ t117 := Nat.ne_of_lt (Nat.lt_of_lt_of_le lt_x_120 le117)
  have lt_ca_121 := (Nat.lt_of_lt_of_le lt_ca K108.1)
  have ne_ca_t117 : ca ≠ t117 := Nat.ne_of_lt (Nat.lt_of_lt_of_le lt_ca_121 le117)
  have lt_t117 : t117 < T117.heap.size := V_t117.lt
  have HK_122 := (Nat.le_trans (Nat.le_trans (Nat.le_trans (Nat.le_trans hk0 K101.1) K104.1) K108.1) K117.1)
  obtain ⟨fs, hr, hrun, hended, hRE⟩ := X117.leaveW hS0 HK_122 (v := some (.ref x)) (fun h => by rw [Bd.returns] at h; cases h)
  refine ⟨_, _, go0 _ ?_, hrun, hended, _, _, rfl, ?_, ?_, hRE.1, hRE.2.1, hRE.2.2.1, hRE.2.2.2.mono (by decide) (by decide)⟩
  · show Steps p.tables e below (s₁.setTop (mkF m 0 #[.val (.int ln), .val (.int c0), .val (.int c1)] [])) _
    refine XS.iloadN X0.here hx rfl (hb hby dX_0) rfl ?_
    show Steps p.tables e below (s₁.setTop (mkF m 1 #[.val (.int ln), .val (.int c0), .val (.int c1)] [(.int ln)])) _
    refine XS.ifYes X0.here hx rfl (pc0 := 1) (pc' := 15) rfl (hb hby dX_1) rfl ((if0 _ _).trans (feq (q0 : ¬ (ln = (0 : Int32)))).2) (by decide) (by decide) ?_
    show Steps p.tables e below (s₁.setTop (mkF m 15 #[.val (.int ln), .val (.int c0), .val (.int c1)] [])) _
    refine XS.iloadN X0.here hx rfl (hb hby dX_15) rfl ?_
    show Steps p.tables e below (s₁.setTop (mkF m 16 #[.val (.int ln), .val (.int c0), .val (.int c1)] [(.int ln)])) _
    refine XS.iconst X0.here hx rfl (hb hby dX_16) ?_
    show Steps p.tables e below (s₁.setTop (mkF m 17 #[.val (.int ln), .val (.int c0), .val (.int c1)] [(.int (1 : Int32)), (.int ln)])) _
    refine XS.icmpNo X0.here hx rfl (hb hby dX_17) rfl (teq (q1 : ln = (1 : Int32))).2 ?_
    show Steps p.tables e below (s₁.setTop (mkF m 20 #[.val (.int ln), .val (.int c0), .val (.int c1)] [])) _
    refine st101 _ ?_
    show Steps p.tables e below (T101.setTop (mkF m 23 #[.val (.int ln), .val (.int c0), .val (.int c1)] [(.ref x)])) _
    refine XS.dup X101.here hx rfl (hb hby dX_23) rfl rfl ?_
    show Steps p.tables e below (T101.setTop (mkF m 24 #[.val (.int ln), .val (.int c0), .val (.int c1)] [(.ref x), (.ref x)])) _
    refine XS.iconst X101.here hx rfl (hb hby dX_24) ?_
    show Steps p.tables e below (T101.setTop (mkF m 25 #[.val (.int ln), .val (.int c0), .val (.int c1)] [(.int (1 : Int32)), (.ref x), (.ref x)])) _
    refine st104 _ ?_
    show Steps p.tables e below (T104.setTop (mkF m 27 #[.val (.int ln), .val (.int c0), .val (.int c1)] [(.ref ca), (.ref x), (.ref x)])) _
    refine XS.dup X104.here hx rfl (hb hby dX_27) rfl rfl ?_
    show Steps p.tables e below (T104.setTop (mkF m 28 #[.val (.int ln), .val (.int c0), .val (.int c1)] [(.ref ca), (.ref ca), (.ref x), (.ref x)])) _
    refine XS.iconst X104.here hx rfl (hb hby dX_28) ?_
    show Steps p.tables e below (T104.setTop (mkF m 29 #[.val (.int ln), .val (.int c0), .val (.int c1)] [(.int (0 : Int32)), (.ref ca), (.ref ca), (.ref x), (.ref x)])) _
    refine XS.iloadN X104.here hx rfl (hb hby dX_29) rfl ?_
    show Steps p.tables e below (T104.setTop (mkF m 30 #[.val (.int ln), .val (.int c0), .val (.int c1)] [(.int c0), (.int (0 : Int32)), (.ref ca), (.ref ca), (.ref x), (.ref x)])) _
    refine st108 _ ?_
    show Steps p.tables e below (T108.setTop (mkF m 31 #[.val (.int ln), .val (.int c0), .val (.int c1)] [(.ref ca), (.ref x), (.ref x)])) _
    refine st117.trans ?_
    show Steps p.tables e below (T117.setTop (mkF m 34 #[.val (.int ln), .val (.int c0), .val (.int c1)] [(.ref x)])) _
    jvm_step X117.here [X117.here.top, hx, (hb hby dX_34), X117.method', Bd.returns, Value.isRef, FieldType.isReference]
    first | (intro acts; rw [hr _ acts rfl rfl rfl]) | rw [hr _ _ rfl rfl rfl]
    exact Steps.refl _
  · show QX Z [nar .char c0] h0 n0 _ T117.heap _
    exact ⟨_, _, _, rfl, N117, KH119, g_x, sz_x, Eq117, Fv117, Fc117, V_t117⟩
  · show CHr Z own_EL s.vm s.heap T117.vm T117.heap
    rw [hh]
    exact R118.trans (CHv.at X117 hZ hEL R118.1)
set_option maxRecDepth 65536 in
set_option maxHeartbeats 40000000 in
theorem rmX_2 (l : Launch) (Z : State) (a0 : Array Value) (hw : ∀ d ∈ tables_1, d.before a0 Z = true) (ws : List Jvm.Cond) (ln c0 c1 G1 : Int32) (h0 : Heap) (n0 : Nat) (Z0 : n0 ≤ h0.size) (O2 : Sta Z Z.heap "java/lang/String" "COMPACT_STRINGS" "Z" (.int G1)) (P5 : ¬ (G1 = (0 : Int32))) (X00 : Old Z n0 h0) (b0 : ¬ nar .char c0 < 0 ∧ ¬ (255 : Int32) < nar .char c0) (b1 : ¬ nar .char c1 < 0 ∧ ¬ (255 : Int32) < nar .char c1) (q0 : ¬ (ln = 0)) (q1 : ¬ (ln = 1)) :
    MetFree l (⟨"com/example/tramway/tramway/idl/TokenIsPinLaw", "text", "(ICC)Ljava/lang/String;"⟩ : MethodName) (head1 (Jvm.Cond.code (⟨"com/example/tramway/tramway/idl/TokenIsPinLaw", "text", "(ICC)Ljava/lang/String;"⟩ : MethodName) method_3_code 3 (some (.object "java/lang/String")) :: ws) ({ frames := 4, cells := 6, slots := 14, locals := 66 } : Room)) (fun a U => a = #[(.int ln), (.int c0), (.int c1)] ∧ Z.Warmed39 U.vm ∧ U.heap = h0 ∧ CHv Z own_EL U.vm h0) (fun _ _ _ _ _ => True) (fun _ U o U' => ∃ v L, o = .returned v ∧ QX Z [nar .char c0, nar .char c1] h0 n0 v U'.heap L ∧ CHr Z own_EL U.vm U.heap U'.vm U'.heap ∧ ReturnedEndW U o U' L ({ frames := 4, cells := 6, slots := 14, locals := 66 } : Room).cells ({ frames := 4, cells := 6, slots := 14, locals := 66 } : Room).slots) := by
  refine MetFree.of_bodySF (plainFor_of_name pnL) hisR ?_
  intro p e s m args below meth c s₁ Bd hml0 hP hK
  obtain ⟨rfl, hZ, hh, HC⟩ := hP
  have hx := Bd.exec
  have hby := Bd.bytes
  have hml : c.maxLocals = 3 := hml0
  have hown : s.vm.findClass "com/example/tramway/tramway/idl/TokenIsPinLaw" = some m.cls := findClass_of_methodNamed Bd.named
  have hnm := (name_of_methodNamed Bd.named Bd.method).1
  have X0 : Stand p l e ({ frames := 4, cells := 6, slots := 14, locals := 66 } : Room) (s.setVm s.vm) m #[(.int ln), (.int c0), (.int c1)] below meth c s₁ [] 0 0 := Stand.of_body Bd
  have e0 : s₁.heap = h0 := by rw [← hh, Bd.state]; rfl
  have N0 := Fr.nil n0
  have go0 : ∀ t, Steps p.tables e below (s₁.setTop (mkF m 0 #[.val (.int ln), .val (.int c0), .val (.int c1)] [])) t → Steps p.tables e below (s₁.setTop (entryFrame m #[(.int ln), (.int c0), (.int c1)] 3)) t := fun t k => castTop (efX m ln c0 c1) k
  have hEL : EW Z a0 own_EL := own_hEL hw
  have hsA : ∀ a ∈ Bundle.stringAtoms, a.before a0 Z = true := own_hsA hw
  have R0 : CHr Z own_EL s.vm h0 s.vm h0 := CHr.refl HC
  have hS0 : s.Since s.vm s.heap.size := (State.WarmedH.refl s).since _
  have hk0 : s.heap.size ≤ h0.size := Nat.le_of_eq (by rw [hh])
  have KH0 : Keep h0 h0 [] := Keep.refl h0 []
  have hws : ∀ d ∈ StrChars.Road.words, d.before a0 Z = true := fun d hd => hw d ((by decide +kernel : ∀ d ∈ StrChars.Road.words, d ∈ tables_1) d hd)
  obtain ⟨T101, h101, X101, e101, E101, A101, D101, -, st101⟩ := newO X0 hx hZ hown (hw _ (List.mem_of_getElem? (i := 5) rfl)) (hw _ (List.mem_of_getElem? (i := 6) rfl)) (hw _ (List.mem_of_getElem? (i := 7) rfl)) e0 (g := (mkF m 35 #[.val (.int ln), .val (.int c0), .val (.int c1)] [])) rfl (hb hby dX_35) (by decide) (by decide)
  obtain ⟨x, g101⟩ : ∃ z, z = h0.size := ⟨_, rfl⟩
  rw [← g101] at A101 D101 st101
  have sz_x : h0.size ≤ x := Nat.le_trans KH0.1 (Nat.le_of_eq g101.symm)
  have g_x : n0 ≤ x := Nat.le_trans Z0 (Nat.le_of_eq g101.symm)
  have F_value_x : Fld Z h101 x "java/lang/String" "value" "[B" .null := D101 (Or.inr (hw _ (List.mem_of_getElem? (i := 21) rfl))) (ty := (.array .byte)) (by decide)
  have F_coder_x : Fld Z h101 x "java/lang/String" "coder" "B" (.int (0 : Int32)) := D101 (Or.inr (hw _ (List.mem_of_getElem? (i := 22) rfl))) (ty := .byte) (by decide)
  have K101 : Keep h0 h101 [] := (Keep.refl _ []).ext E101
  have hs102 : ∀ sx_ ∈ ([] : List Addr), Safe Z own_EL s.vm h0 sx_ := all0
  have R102 := R0.trans (CHr.keep K101 hs102 R0.1)
  have KH103 : Keep h0 h101 [] := KH0.trans K101 all0
  have lt_x : x < h101.size := A101.lt
  obtain ⟨T104, h104, k104, X104, e104, E104, A104, st104⟩ := newP X101 hx hZ (hw _ (List.mem_of_getElem? (i := 8) rfl)) e101 (g := (mkF m 40 #[.val (.int ln), .val (.int c0), .val (.int c1)] [(.int (2 : Int32)), (.ref x), (.ref x)])) rfl (hb hby dX_40) rfl (by decide) (cap := 2) (by decide) (by decide) (by decide) (by decide)
  obtain ⟨ca, g104⟩ : ∃ z, z = h101.size := ⟨_, rfl⟩
  rw [← g104] at A104 st104
  have Z_105 := (Nat.le_trans Z0 K101.1)
  have sz_ca : h0.size ≤ ca := Nat.le_trans KH103.1 (Nat.le_of_eq g104.symm)
  have g_ca : n0 ≤ ca := Nat.le_trans Z_105 (Nat.le_of_eq g104.symm)
  have ne_x_ca : x ≠ ca := (Nat.ne_of_lt (Nat.lt_of_lt_of_le lt_x (Nat.le_of_eq g104.symm)))
  have V_ca : Arv Z h104 ca k104 .char (2 : Int32) [(.int (0 : Int32)), (.int (0 : Int32))] (.int (0 : Int32)) := (Arv.new A104 (by decide)).pad (pad_rep [] (.int (0 : Int32)) 2)
  have K104 : Keep h101 h104 [] := (Keep.refl _ []).ext E104
  have hs106 : ∀ sx_ ∈ ([] : List Addr), Safe Z own_EL s.vm h101 sx_ := all0
  have R106 := R102.trans (CHr.keep K104 hs106 R102.1)
  have KH107 : Keep h0 h104 [] := KH103.trans K104 all0
  have lt_ca : ca < h104.size := V_ca.lt
  obtain ⟨cl108, Ar108, q108, S108, M108, Hh108, G108⟩ := id V_ca
  obtain ⟨T108, h108, X108, e108, W108, st108⟩ := stC X104 hx hZ e104 Ar108 (j := (0 : Int32)) (inb_of S108 ⟨by decide, by decide⟩) (g := (mkF m 45 #[.val (.int ln), .val (.int c0), .val (.int c1)] [(.int c0), (.int (0 : Int32)), (.ref ca), (.ref ca), (.ref x), (.ref x)])) rfl rfl (hb hby dX_45)
  have V_ca_108 : Arv Z h108 ca k104 .char (2 : Int32) [(.int (nar .char c0)), (.int (0 : Int32))] (.int (0 : Int32)) := Arv.set Ar108 q108 S108 M108 Hh108 G108 (fits_nar_char _) W108 0 rfl (Nat.le_of_ble_eq_true rfl)
  have K108 : Keep h104 h108 [ca] := Keep.of_wr W108
  have hs109 : ∀ sx_ ∈ ([ca] : List Addr), Safe Z own_EL s.vm h104 sx_ := (allS (Safe.arr hZ.alike Ar108 (by decide)) all0)
  have R109 := R106.trans (CHr.keep K108 hs109 R106.1)
  have KH110 : Keep h0 h108 [] := KH107.trans K108 (allS (Or.inr sz_ca) all0)
  have N108 := Fr.snoc X108 N0 g_ca
  obtain ⟨cl111, Ar111, q111, S111, M111, Hh111, G111⟩ := id V_ca_108
  obtain ⟨T111, h111, X111, e111, W111, st111⟩ := stC X108 hx hZ e108 Ar111 (j := (1 : Int32)) (inb_of S111 ⟨by decide, by decide⟩) (g := (mkF m 49 #[.val (.int ln), .val (.int c0), .val (.int c1)] [(.int c1), (.int (1 : Int32)), (.ref ca), (.ref ca), (.ref x), (.ref x)])) rfl rfl (hb hby dX_49)
  have V_ca_111 : Arv Z h111 ca k104 .char (2 : Int32) [(.int (nar .char c0)), (.int (nar .char c1))] (.int (0 : Int32)) := Arv.set Ar111 q111 S111 M111 Hh111 G111 (fits_nar_char _) W111 1 rfl (Nat.le_of_ble_eq_true rfl)
  have K111 : Keep h108 h111 [ca] := Keep.of_wr W111
  have hs112 : ∀ sx_ ∈ ([ca] : List Addr), Safe Z own_EL s.vm h108 sx_ := (allS (Safe.arr hZ.alike Ar111 (by decide)) all0)
  have R112 := R109.trans (CHr.keep K111 hs112 R109.1)
  have KH113 : Keep h0 h111 [] := KH110.trans K111 (allS (Or.inr sz_ca) all0)
  have N111 := Fr.snoc X111 N108 g_ca
  have E_x_114 := (((A101.keep K104).keep K108).keep K111)
  have F_value_x_115 := (((F_value_x.keep K104 nin0).keep K108 (ninS ne_x_ca nin0)).keep K111 (ninS ne_x_ca nin0))
  have sfx : Safe Z own_EL s.vm h111 x := own_safe_null hZ.alike E_x_114 F_value_x_115 (hw _ (List.mem_of_getElem? (i := 6) rfl))
  have hp116 : ∀ c ∈ ([nar .char c0, nar .char c1] : List Int32), ¬ c < 0 ∧ ¬ (255 : Int32) < c := by
    intro c hc
    simp only [List.mem_cons, List.not_mem_nil, or_false] at hc
    rcases hc with rfl | rfl
    · exact b0
    · exact b1
  have Z_117 := (Nat.le_trans (Nat.le_trans (Nat.le_trans Z_105 K104.1) K108.1) K111.1)
  have O_118 := ((((X00.keep K101 all0).keep K104 all0).keep K108 (allS g_ca all0)).keep K111 (allS g_ca all0))
  have F_coder_x_119 := (((F_coder_x.keep K104 nin0).keep K108 (ninS ne_x_ca nin0)).keep K111 (ninS ne_x_ca nin0))
  obtain ⟨_, _, ⟨T120, L120, kk120, nn120⟩, -, X120, ⟨Lc120, hQ120, l120, y120, z120⟩, st120⟩ := X111.specialBack hx (y := (⟨"java/lang/String", "<init>", "([C)V"⟩ : MethodName)) rfl hown (mvT hZ (hw _ (List.mem_of_getElem? (i := 9) rfl))) (mvT hZ (hw _ (List.mem_of_getElem? (i := 10) rfl))) (mvT hZ (hw _ (List.mem_of_getElem? (i := 11) rfl))) (by decide) (StrChars.Road.backV (W := 1) hZ hws (kI := 4) (hw _ (List.mem_of_getElem? (i := 6) rfl)) (cs := ([nar .char c0, nar .char c1] : List Int32)) (bs := ([nar .char c0, nar .char c1] : List Int32).map (fun c => c.toInt8.toInt32)) (n := 2) g_x Z_117 E_x_114 F_value_x_115 F_coder_x_119 V_ca_111 (O2.ext O_118.2) P5 rfl rfl (by decide) (by decide) hp116 rfl (by decide) (by decide)) (g := (mkF m 50 #[.val (.int ln), .val (.int c0), .val (.int c1)] [(.ref ca), (.ref x), (.ref x)])) rfl (by rw [hml]; rfl) (Steps.refl _) (a := x) (argsL := [(.ref ca)]) (rest := [(.ref x)]) (lenOf pd___C_V rfl) rfl (by show 2 * 0 + _ ≤ _; exact Nat.le_of_eq rfl) (hb hby dX_50) (fun _ _ => ⟨rfl, e111, Nat.le_of_ble_eq_true rfl, Nat.le_of_ble_eq_true rfl⟩)
  dsimp only [Pt.U, Pt.locs, Pt.cells, Pt.slots] at X120 l120 y120 z120 st120 hQ120
  subst l120 y120 z120
  obtain ⟨rfl, Nq120, K120, Eq120, Fc120, t120, kb120, g_t120, le120, nx120, Fv120, V_t120⟩ := hQ120
  have N120 := Fr.app N111 Nq120
  have hs121 : ∀ sx_ ∈ ([x] : List Addr), Safe Z own_EL s.vm h111 sx_ := (allS sfx all0)
  have R121 := R112.trans (CHr.keep K120 hs121 R112.1)
  have KH122 : Keep h0 T120.heap [] := KH113.trans K120 (allS (Or.inr sz_x) all0)
  have lt_x_123 := (Nat.lt_of_lt_of_le (Nat.lt_of_lt_of_le (Nat.lt_of_lt_of_le lt_x K104.1) K108.1) K111.1)
  have ne_x_t120 : x ≠ t120 := Nat.ne_of_lt (Nat.lt_of_lt_of_le lt_x_123 le120)
  have lt_ca_124 := (Nat.lt_of_lt_of_le (Nat.lt_of_lt_of_le lt_ca K108.1) K111.1)
  have ne_ca_t120 : ca ≠ t120 := Nat.ne_of_lt (Nat.lt_of_lt_of_le lt_ca_124 le120)
  have lt_t120 : t120 < T120.heap.size := V_t120.lt
  have HK_125 := (Nat.le_trans (Nat.le_trans (Nat.le_trans (Nat.le_trans (Nat.le_trans hk0 K101.1) K104.1) K108.1) K111.1) K120.1)
  obtain ⟨fs, hr, hrun, hended, hRE⟩ := X120.leaveW hS0 HK_125 (v := some (.ref x)) (fun h => by rw [Bd.returns] at h; cases h)
  refine ⟨_, _, go0 _ ?_, hrun, hended, _, _, rfl, ?_, ?_, hRE.1, hRE.2.1, hRE.2.2.1, hRE.2.2.2.mono (by decide) (by decide)⟩
  · show Steps p.tables e below (s₁.setTop (mkF m 0 #[.val (.int ln), .val (.int c0), .val (.int c1)] [])) _
    refine XS.iloadN X0.here hx rfl (hb hby dX_0) rfl ?_
    show Steps p.tables e below (s₁.setTop (mkF m 1 #[.val (.int ln), .val (.int c0), .val (.int c1)] [(.int ln)])) _
    refine XS.ifYes X0.here hx rfl (pc0 := 1) (pc' := 15) rfl (hb hby dX_1) rfl ((if0 _ _).trans (feq (q0 : ¬ (ln = (0 : Int32)))).2) (by decide) (by decide) ?_
    show Steps p.tables e below (s₁.setTop (mkF m 15 #[.val (.int ln), .val (.int c0), .val (.int c1)] [])) _
    refine XS.iloadN X0.here hx rfl (hb hby dX_15) rfl ?_
    show Steps p.tables e below (s₁.setTop (mkF m 16 #[.val (.int ln), .val (.int c0), .val (.int c1)] [(.int ln)])) _
    refine XS.iconst X0.here hx rfl (hb hby dX_16) ?_
    show Steps p.tables e below (s₁.setTop (mkF m 17 #[.val (.int ln), .val (.int c0), .val (.int c1)] [(.int (1 : Int32)), (.int ln)])) _
    refine XS.icmpYes X0.here hx rfl (pc0 := 17) (pc' := 35) rfl (hb hby dX_17) rfl (feq (q1 : ¬ (ln = (1 : Int32)))).2 (by decide) (by decide) ?_
    show Steps p.tables e below (s₁.setTop (mkF m 35 #[.val (.int ln), .val (.int c0), .val (.int c1)] [])) _
    refine st101 _ ?_
    show Steps p.tables e below (T101.setTop (mkF m 38 #[.val (.int ln), .val (.int c0), .val (.int c1)] [(.ref x)])) _
    refine XS.dup X101.here hx rfl (hb hby dX_38) rfl rfl ?_
    show Steps p.tables e below (T101.setTop (mkF m 39 #[.val (.int ln), .val (.int c0), .val (.int c1)] [(.ref x), (.ref x)])) _
    refine XS.iconst X101.here hx rfl (hb hby dX_39) ?_
    show Steps p.tables e below (T101.setTop (mkF m 40 #[.val (.int ln), .val (.int c0), .val (.int c1)] [(.int (2 : Int32)), (.ref x), (.ref x)])) _
    refine st104 _ ?_
    show Steps p.tables e below (T104.setTop (mkF m 42 #[.val (.int ln), .val (.int c0), .val (.int c1)] [(.ref ca), (.ref x), (.ref x)])) _
    refine XS.dup X104.here hx rfl (hb hby dX_42) rfl rfl ?_
    show Steps p.tables e below (T104.setTop (mkF m 43 #[.val (.int ln), .val (.int c0), .val (.int c1)] [(.ref ca), (.ref ca), (.ref x), (.ref x)])) _
    refine XS.iconst X104.here hx rfl (hb hby dX_43) ?_
    show Steps p.tables e below (T104.setTop (mkF m 44 #[.val (.int ln), .val (.int c0), .val (.int c1)] [(.int (0 : Int32)), (.ref ca), (.ref ca), (.ref x), (.ref x)])) _
    refine XS.iloadN X104.here hx rfl (hb hby dX_44) rfl ?_
    show Steps p.tables e below (T104.setTop (mkF m 45 #[.val (.int ln), .val (.int c0), .val (.int c1)] [(.int c0), (.int (0 : Int32)), (.ref ca), (.ref ca), (.ref x), (.ref x)])) _
    refine st108 _ ?_
    show Steps p.tables e below (T108.setTop (mkF m 46 #[.val (.int ln), .val (.int c0), .val (.int c1)] [(.ref ca), (.ref x), (.ref x)])) _
    refine XS.dup X108.here hx rfl (hb hby dX_46) rfl rfl ?_
    show Steps p.tables e below (T108.setTop (mkF m 47 #[.val (.int ln), .val (.int c0), .val (.int c1)] [(.ref ca), (.ref ca), (.ref x), (.ref x)])) _
    refine XS.iconst X108.here hx rfl (hb hby dX_47) ?_
    show Steps p.tables e below (T108.setTop (mkF m 48 #[.val (.int ln), .val (.int c0), .val (.int c1)] [(.int (1 : Int32)), (.ref ca), (.ref ca), (.ref x), (.ref x)])) _
    refine XS.iloadN X108.here hx rfl (hb hby dX_48) rfl ?_
    show Steps p.tables e below (T108.setTop (mkF m 49 #[.val (.int ln), .val (.int c0), .val (.int c1)] [(.int c1), (.int (1 : Int32)), (.ref ca), (.ref ca), (.ref x), (.ref x)])) _
    refine st111 _ ?_
    show Steps p.tables e below (T111.setTop (mkF m 50 #[.val (.int ln), .val (.int c0), .val (.int c1)] [(.ref ca), (.ref x), (.ref x)])) _
    refine st120.trans ?_
    show Steps p.tables e below (T120.setTop (mkF m 53 #[.val (.int ln), .val (.int c0), .val (.int c1)] [(.ref x)])) _
    jvm_step X120.here [X120.here.top, hx, (hb hby dX_53), X120.method', Bd.returns, Value.isRef, FieldType.isReference]
    first | (intro acts; rw [hr _ acts rfl rfl rfl]) | rw [hr _ _ rfl rfl rfl]
    exact Steps.refl _
  · show QX Z [nar .char c0, nar .char c1] h0 n0 _ T120.heap _
    exact ⟨_, _, _, rfl, N120, KH122, g_x, sz_x, Eq120, Fv120, Fc120, V_t120⟩
  · show CHr Z own_EL s.vm s.heap T120.vm T120.heap
    rw [hh]
    exact R121.trans (CHv.at X120 hZ hEL R121.1)
theorem rmX (l : Launch) (Z : State) (a0 : Array Value) (hw : ∀ d ∈ tables_1, d.before a0 Z = true) (ws : List Jvm.Cond) (ln c0 c1 G1 : Int32) (h0 : Heap) (n0 : Nat) (Z0 : n0 ≤ h0.size) (O2 : Sta Z Z.heap "java/lang/String" "COMPACT_STRINGS" "Z" (.int G1)) (P5 : ¬ (G1 = (0 : Int32))) (X00 : Old Z n0 h0) (b0 : ¬ nar .char c0 < 0 ∧ ¬ (255 : Int32) < nar .char c0) (b1 : ¬ nar .char c1 < 0 ∧ ¬ (255 : Int32) < nar .char c1) :
    MetFree l (⟨"com/example/tramway/tramway/idl/TokenIsPinLaw", "text", "(ICC)Ljava/lang/String;"⟩ : MethodName) (head1 (Jvm.Cond.code (⟨"com/example/tramway/tramway/idl/TokenIsPinLaw", "text", "(ICC)Ljava/lang/String;"⟩ : MethodName) method_3_code 3 (some (.object "java/lang/String")) :: ws) ({ frames := 4, cells := 6, slots := 14, locals := 66 } : Room)) (fun a U => a = #[(.int ln), (.int c0), (.int c1)] ∧ Z.Warmed39 U.vm ∧ U.heap = h0 ∧ CHv Z own_EL U.vm h0) (fun _ _ _ _ _ => True) (fun _ U o U' => ∃ v L, o = .returned v ∧ QX Z (own_cl ln c0 c1) h0 n0 v U'.heap L ∧ CHr Z own_EL U.vm U.heap U'.vm U'.heap ∧ ReturnedEndW U o U' L ({ frames := 4, cells := 6, slots := 14, locals := 66 } : Room).cells ({ frames := 4, cells := 6, slots := 14, locals := 66 } : Room).slots) := by
  by_cases q0 : ln = 0
  · have e : own_cl ln c0 c1 = [] := by unfold own_cl; rw [if_pos q0]
    rw [e]; exact rmX_0 l Z a0 hw ws ln c0 c1 G1 h0 n0 Z0 O2 P5 X00 b0 b1 q0
  · by_cases q1 : ln = 1
    · have e : own_cl ln c0 c1 = [nar .char c0] := by unfold own_cl; rw [if_neg q0, if_pos q1]
      rw [e]; exact rmX_1 l Z a0 hw ws ln c0 c1 G1 h0 n0 Z0 O2 P5 X00 b0 b1 q0 q1
    · have e : own_cl ln c0 c1 = [nar .char c0, nar .char c1] := by unfold own_cl; rw [if_neg q0, if_neg q1]
      rw [e]; exact rmX_2 l Z a0 hw ws ln c0 c1 G1 h0 n0 Z0 O2 P5 X00 b0 b1 q0 q1
theorem dK_0 : decode method_2_code 0 = .ok (.iload_n 0, 1) := by decide +kernel
theorem dK_1 : decode method_2_code 1 = .ok (.ifCond .ne 7, 3) := by decide +kernel
theorem dK_4 : decode method_2_code 4 = .ok (.getstatic 7, 3) := by decide +kernel
theorem dK_7 : decode method_2_code 7 = .ok (.areturn, 1) := by decide +kernel
theorem dK_8 : decode method_2_code 8 = .ok (.iload_n 0, 1) := by decide +kernel
theorem dK_9 : decode method_2_code 9 = .ok (.iconst 1, 1) := by decide +kernel
theorem dK_10 : decode method_2_code 10 = .ok (.if_icmp .ne 7, 3) := by decide +kernel
theorem dK_13 : decode method_2_code 13 = .ok (.getstatic 13, 3) := by decide +kernel
theorem dK_16 : decode method_2_code 16 = .ok (.areturn, 1) := by decide +kernel
theorem dK_17 : decode method_2_code 17 = .ok (.iload_n 0, 1) := by decide +kernel
theorem dK_18 : decode method_2_code 18 = .ok (.iconst 2, 1) := by decide +kernel
theorem dK_19 : decode method_2_code 19 = .ok (.if_icmp .ne 7, 3) := by decide +kernel
theorem dK_22 : decode method_2_code 22 = .ok (.getstatic 16, 3) := by decide +kernel
theorem dK_25 : decode method_2_code 25 = .ok (.areturn, 1) := by decide +kernel
theorem dK_26 : decode method_2_code 26 = .ok (.iload_n 0, 1) := by decide +kernel
theorem dK_27 : decode method_2_code 27 = .ok (.iconst 3, 1) := by decide +kernel
theorem dK_28 : decode method_2_code 28 = .ok (.if_icmp .ne 7, 3) := by decide +kernel
theorem dK_31 : decode method_2_code 31 = .ok (.getstatic 19, 3) := by decide +kernel
theorem dK_34 : decode method_2_code 34 = .ok (.areturn, 1) := by decide +kernel
theorem dK_35 : decode method_2_code 35 = .ok (.iload_n 0, 1) := by decide +kernel
theorem dK_36 : decode method_2_code 36 = .ok (.iconst 4, 1) := by decide +kernel
theorem dK_37 : decode method_2_code 37 = .ok (.if_icmp .ne 7, 3) := by decide +kernel
theorem dK_40 : decode method_2_code 40 = .ok (.getstatic 22, 3) := by decide +kernel
theorem dK_43 : decode method_2_code 43 = .ok (.areturn, 1) := by decide +kernel
theorem dK_44 : decode method_2_code 44 = .ok (.iload_n 0, 1) := by decide +kernel
theorem dK_45 : decode method_2_code 45 = .ok (.iconst 5, 1) := by decide +kernel
theorem dK_46 : decode method_2_code 46 = .ok (.if_icmp .ne 7, 3) := by decide +kernel
theorem dK_49 : decode method_2_code 49 = .ok (.getstatic 25, 3) := by decide +kernel
theorem dK_52 : decode method_2_code 52 = .ok (.areturn, 1) := by decide +kernel
theorem dK_53 : decode method_2_code 53 = .ok (.iload_n 0, 1) := by decide +kernel
theorem dK_54 : decode method_2_code 54 = .ok (.bipush 6, 2) := by decide +kernel
theorem dK_56 : decode method_2_code 56 = .ok (.if_icmp .ne 7, 3) := by decide +kernel
theorem dK_59 : decode method_2_code 59 = .ok (.getstatic 28, 3) := by decide +kernel
theorem dK_62 : decode method_2_code 62 = .ok (.areturn, 1) := by decide +kernel
theorem dK_63 : decode method_2_code 63 = .ok (.iload_n 0, 1) := by decide +kernel
theorem dK_64 : decode method_2_code 64 = .ok (.bipush 7, 2) := by decide +kernel
theorem dK_66 : decode method_2_code 66 = .ok (.if_icmp .ne 7, 3) := by decide +kernel
theorem dK_69 : decode method_2_code 69 = .ok (.getstatic 31, 3) := by decide +kernel
theorem dK_72 : decode method_2_code 72 = .ok (.areturn, 1) := by decide +kernel
theorem dK_73 : decode method_2_code 73 = .ok (.iload_n 0, 1) := by decide +kernel
theorem dK_74 : decode method_2_code 74 = .ok (.bipush 8, 2) := by decide +kernel
theorem dK_76 : decode method_2_code 76 = .ok (.if_icmp .ne 7, 3) := by decide +kernel
theorem dK_79 : decode method_2_code 79 = .ok (.getstatic 34, 3) := by decide +kernel
theorem dK_82 : decode method_2_code 82 = .ok (.areturn, 1) := by decide +kernel
theorem dK_83 : decode method_2_code 83 = .ok (.iload_n 0, 1) := by decide +kernel
theorem dK_84 : decode method_2_code 84 = .ok (.bipush 9, 2) := by decide +kernel
theorem dK_86 : decode method_2_code 86 = .ok (.if_icmp .ne 7, 3) := by decide +kernel
theorem dK_89 : decode method_2_code 89 = .ok (.getstatic 37, 3) := by decide +kernel
theorem dK_92 : decode method_2_code 92 = .ok (.areturn, 1) := by decide +kernel
theorem dK_93 : decode method_2_code 93 = .ok (.iload_n 0, 1) := by decide +kernel
theorem dK_94 : decode method_2_code 94 = .ok (.bipush 10, 2) := by decide +kernel
theorem dK_96 : decode method_2_code 96 = .ok (.if_icmp .ne 7, 3) := by decide +kernel
theorem dK_99 : decode method_2_code 99 = .ok (.getstatic 40, 3) := by decide +kernel
theorem dK_102 : decode method_2_code 102 = .ok (.areturn, 1) := by decide +kernel
theorem dK_103 : decode method_2_code 103 = .ok (.iload_n 0, 1) := by decide +kernel
theorem dK_104 : decode method_2_code 104 = .ok (.bipush 11, 2) := by decide +kernel
theorem dK_106 : decode method_2_code 106 = .ok (.if_icmp .ne 7, 3) := by decide +kernel
theorem dK_109 : decode method_2_code 109 = .ok (.getstatic 43, 3) := by decide +kernel
theorem dK_112 : decode method_2_code 112 = .ok (.areturn, 1) := by decide +kernel
theorem dK_113 : decode method_2_code 113 = .ok (.iload_n 0, 1) := by decide +kernel
theorem dK_114 : decode method_2_code 114 = .ok (.bipush 12, 2) := by decide +kernel
theorem dK_116 : decode method_2_code 116 = .ok (.if_icmp .ne 7, 3) := by decide +kernel
theorem dK_119 : decode method_2_code 119 = .ok (.getstatic 46, 3) := by decide +kernel
theorem dK_122 : decode method_2_code 122 = .ok (.areturn, 1) := by decide +kernel
theorem dK_123 : decode method_2_code 123 = .ok (.iload_n 0, 1) := by decide +kernel
theorem dK_124 : decode method_2_code 124 = .ok (.bipush 13, 2) := by decide +kernel
theorem dK_126 : decode method_2_code 126 = .ok (.if_icmp .ne 7, 3) := by decide +kernel
theorem dK_129 : decode method_2_code 129 = .ok (.getstatic 49, 3) := by decide +kernel
theorem dK_132 : decode method_2_code 132 = .ok (.areturn, 1) := by decide +kernel
theorem dK_133 : decode method_2_code 133 = .ok (.iload_n 0, 1) := by decide +kernel
theorem dK_134 : decode method_2_code 134 = .ok (.bipush 14, 2) := by decide +kernel
theorem dK_136 : decode method_2_code 136 = .ok (.if_icmp .ne 7, 3) := by decide +kernel
theorem dK_139 : decode method_2_code 139 = .ok (.getstatic 52, 3) := by decide +kernel
theorem dK_142 : decode method_2_code 142 = .ok (.areturn, 1) := by decide +kernel
theorem dK_143 : decode method_2_code 143 = .ok (.iload_n 0, 1) := by decide +kernel
theorem dK_144 : decode method_2_code 144 = .ok (.bipush 15, 2) := by decide +kernel
theorem dK_146 : decode method_2_code 146 = .ok (.if_icmp .ne 7, 3) := by decide +kernel
theorem dK_149 : decode method_2_code 149 = .ok (.getstatic 55, 3) := by decide +kernel
theorem dK_152 : decode method_2_code 152 = .ok (.areturn, 1) := by decide +kernel
theorem dK_153 : decode method_2_code 153 = .ok (.getstatic 58, 3) := by decide +kernel
theorem dK_156 : decode method_2_code 156 = .ok (.areturn, 1) := by decide +kernel
theorem efK (m : MethodId) (x0 : Int32) : entryFrame m #[(.int x0)] 1 = mkF m 0 #[.val (.int x0)] [] := by first | (simp [entryFrame, mkF, argsToLocals, Value.category]; done) | rfl
def own_kd (i : Int32) (w0 w1 w2 w3 w4 w5 w6 w7 w8 w9 w10 w11 w12 w13 w14 w15 w16 : Addr) : Addr := if i = (0 : Int32) then w0 else if i = (1 : Int32) then w1 else if i = (2 : Int32) then w2 else if i = (3 : Int32) then w3 else if i = (4 : Int32) then w4 else if i = (5 : Int32) then w5 else if i = (6 : Int32) then w6 else if i = (7 : Int32) then w7 else if i = (8 : Int32) then w8 else if i = (9 : Int32) then w9 else if i = (10 : Int32) then w10 else if i = (11 : Int32) then w11 else if i = (12 : Int32) then w12 else if i = (13 : Int32) then w13 else if i = (14 : Int32) then w14 else if i = (15 : Int32) then w15 else w16
def QK (w : Addr) (h0 : Heap) (n0 : Nat) (v : Option Value) (h : Heap) (L : List Loc) : Prop := v = some (.ref w) ∧ Fr n0 L ∧ h = h0
set_option maxRecDepth 65536 in
set_option maxHeartbeats 40000000 in
theorem rmK_0 (l : Launch) (Z : State) (a0 : Array Value) (hw : ∀ d ∈ tables_1, d.before a0 Z = true) (ws : List Jvm.Cond) (p1 : Int32) (w : Addr) (h0 : Heap) (n0 : Nat) (S : Sta Z h0 "com/example/tramway/tramway/idl/Token$Kind" "IDENTIFIER" "Lcom/example/tramway/tramway/idl/Token$Kind;" (.ref w))  (y : p1 = (0 : Int32)) :
    MetFree l (⟨"com/example/tramway/tramway/idl/TokenIsPinLaw", "kind", "(I)Lcom/example/tramway/tramway/idl/Token$Kind;"⟩ : MethodName) (head1 (Jvm.Cond.code (⟨"com/example/tramway/tramway/idl/TokenIsPinLaw", "kind", "(I)Lcom/example/tramway/tramway/idl/Token$Kind;"⟩ : MethodName) method_2_code 1 (some (.object "com/example/tramway/tramway/idl/Token$Kind")) :: ws) ({ frames := 0, cells := 0, slots := 0, locals := 0 } : Room)) (fun a U => a = #[(.int p1)] ∧ Z.Warmed39 U.vm ∧ U.heap = h0) (fun _ _ _ _ _ => True) (fun _ U o U' => ∃ v L, o = .returned v ∧ QK w h0 n0 v U'.heap L ∧ FrameEnd U o U' L ({ frames := 0, cells := 0, slots := 0, locals := 0 } : Room).cells ({ frames := 0, cells := 0, slots := 0, locals := 0 } : Room).slots) := by
  refine MetFree.of_bodySF (plainFor_of_name pnL) hisR ?_
  intro p e s m args below meth c s₁ Bd hml0 hP hK
  obtain ⟨rfl, hZ, hh⟩ := hP
  have hx := Bd.exec
  have hby := Bd.bytes
  have hml : c.maxLocals = 1 := hml0
  have hown : s.vm.findClass "com/example/tramway/tramway/idl/TokenIsPinLaw" = some m.cls := findClass_of_methodNamed Bd.named
  have hnm := (name_of_methodNamed Bd.named Bd.method).1
  have X0 : Stand p l e ({ frames := 0, cells := 0, slots := 0, locals := 0 } : Room) s m #[(.int p1)] below meth c s₁ [] 0 0 := Stand.of_body Bd
  have e0 : s₁.heap = h0 := by rw [← hh, Bd.state]; rfl
  have N0 := Fr.nil n0
  have go0 : ∀ t, Steps p.tables e below (s₁.setTop (mkF m 0 #[.val (.int p1)] [])) t → Steps p.tables e below (s₁.setTop (entryFrame m #[(.int p1)] 1)) t := fun t k => castTop (efK m p1) k
  obtain ⟨T101, X101, e101, st101⟩ := getS2 X0 hx hZ hown (host := "") (Or.inl (hw _ (List.mem_of_getElem? (i := 30) rfl))) Via.refl e0 S (g := (mkF m 4 #[.val (.int p1)] [])) rfl (hb hby dK_4)
  obtain ⟨fs, hr, hrun, hended, hW, hsame⟩ := X101.leave (v := some (.ref w)) (fun h => by rw [Bd.returns] at h; cases h)
  refine ⟨_, _, go0 _ ?_, hrun, hended, _, _, rfl, ?_, ⟨_, rfl⟩, hW, hsame.mono (by decide) (by decide)⟩
  · show Steps p.tables e below (s₁.setTop (mkF m 0 #[.val (.int p1)] [])) _
    refine XS.iloadN X0.here hx rfl (hb hby dK_0) rfl ?_
    show Steps p.tables e below (s₁.setTop (mkF m 1 #[.val (.int p1)] [(.int p1)])) _
    refine XS.ifNo X0.here hx rfl (hb hby dK_1) rfl ((if0 _ _).trans (teq (y : p1 = (0 : Int32))).2) ?_
    show Steps p.tables e below (s₁.setTop (mkF m 4 #[.val (.int p1)] [])) _
    refine st101 _ ?_
    show Steps p.tables e below (T101.setTop (mkF m 7 #[.val (.int p1)] [(.ref w)])) _
    jvm_step X101.here [X101.here.top, hx, (hb hby dK_7), X101.method', Bd.returns, Value.isRef, FieldType.isReference]
    first | (intro acts; rw [hr _ acts rfl rfl rfl]) | rw [hr _ _ rfl rfl rfl]
    exact Steps.refl _
  · show QK w h0 n0 _ T101.heap _
    rw [e101]
    exact ⟨rfl, N0, rfl⟩
set_option maxRecDepth 65536 in
set_option maxHeartbeats 40000000 in
theorem rmK_1 (l : Launch) (Z : State) (a0 : Array Value) (hw : ∀ d ∈ tables_1, d.before a0 Z = true) (ws : List Jvm.Cond) (p1 : Int32) (w : Addr) (h0 : Heap) (n0 : Nat) (S : Sta Z h0 "com/example/tramway/tramway/idl/Token$Kind" "INTEGER" "Lcom/example/tramway/tramway/idl/Token$Kind;" (.ref w)) (z0 : ¬ (p1 = (0 : Int32))) (y : p1 = (1 : Int32)) :
    MetFree l (⟨"com/example/tramway/tramway/idl/TokenIsPinLaw", "kind", "(I)Lcom/example/tramway/tramway/idl/Token$Kind;"⟩ : MethodName) (head1 (Jvm.Cond.code (⟨"com/example/tramway/tramway/idl/TokenIsPinLaw", "kind", "(I)Lcom/example/tramway/tramway/idl/Token$Kind;"⟩ : MethodName) method_2_code 1 (some (.object "com/example/tramway/tramway/idl/Token$Kind")) :: ws) ({ frames := 0, cells := 0, slots := 0, locals := 0 } : Room)) (fun a U => a = #[(.int p1)] ∧ Z.Warmed39 U.vm ∧ U.heap = h0) (fun _ _ _ _ _ => True) (fun _ U o U' => ∃ v L, o = .returned v ∧ QK w h0 n0 v U'.heap L ∧ FrameEnd U o U' L ({ frames := 0, cells := 0, slots := 0, locals := 0 } : Room).cells ({ frames := 0, cells := 0, slots := 0, locals := 0 } : Room).slots) := by
  refine MetFree.of_bodySF (plainFor_of_name pnL) hisR ?_
  intro p e s m args below meth c s₁ Bd hml0 hP hK
  obtain ⟨rfl, hZ, hh⟩ := hP
  have hx := Bd.exec
  have hby := Bd.bytes
  have hml : c.maxLocals = 1 := hml0
  have hown : s.vm.findClass "com/example/tramway/tramway/idl/TokenIsPinLaw" = some m.cls := findClass_of_methodNamed Bd.named
  have hnm := (name_of_methodNamed Bd.named Bd.method).1
  have X0 : Stand p l e ({ frames := 0, cells := 0, slots := 0, locals := 0 } : Room) s m #[(.int p1)] below meth c s₁ [] 0 0 := Stand.of_body Bd
  have e0 : s₁.heap = h0 := by rw [← hh, Bd.state]; rfl
  have N0 := Fr.nil n0
  have go0 : ∀ t, Steps p.tables e below (s₁.setTop (mkF m 0 #[.val (.int p1)] [])) t → Steps p.tables e below (s₁.setTop (entryFrame m #[(.int p1)] 1)) t := fun t k => castTop (efK m p1) k
  obtain ⟨T101, X101, e101, st101⟩ := getS2 X0 hx hZ hown (host := "") (Or.inl (hw _ (List.mem_of_getElem? (i := 114) rfl))) Via.refl e0 S (g := (mkF m 13 #[.val (.int p1)] [])) rfl (hb hby dK_13)
  obtain ⟨fs, hr, hrun, hended, hW, hsame⟩ := X101.leave (v := some (.ref w)) (fun h => by rw [Bd.returns] at h; cases h)
  refine ⟨_, _, go0 _ ?_, hrun, hended, _, _, rfl, ?_, ⟨_, rfl⟩, hW, hsame.mono (by decide) (by decide)⟩
  · show Steps p.tables e below (s₁.setTop (mkF m 0 #[.val (.int p1)] [])) _
    refine XS.iloadN X0.here hx rfl (hb hby dK_0) rfl ?_
    show Steps p.tables e below (s₁.setTop (mkF m 1 #[.val (.int p1)] [(.int p1)])) _
    refine XS.ifYes X0.here hx rfl (pc0 := 1) (pc' := 8) rfl (hb hby dK_1) rfl ((if0 _ _).trans (feq (z0 : ¬ (p1 = (0 : Int32)))).2) (by decide) (by decide) ?_
    show Steps p.tables e below (s₁.setTop (mkF m 8 #[.val (.int p1)] [])) _
    refine XS.iloadN X0.here hx rfl (hb hby dK_8) rfl ?_
    show Steps p.tables e below (s₁.setTop (mkF m 9 #[.val (.int p1)] [(.int p1)])) _
    refine XS.iconst X0.here hx rfl (hb hby dK_9) ?_
    show Steps p.tables e below (s₁.setTop (mkF m 10 #[.val (.int p1)] [(.int (1 : Int32)), (.int p1)])) _
    refine XS.icmpNo X0.here hx rfl (hb hby dK_10) rfl (teq (y : p1 = (1 : Int32))).2 ?_
    show Steps p.tables e below (s₁.setTop (mkF m 13 #[.val (.int p1)] [])) _
    refine st101 _ ?_
    show Steps p.tables e below (T101.setTop (mkF m 16 #[.val (.int p1)] [(.ref w)])) _
    jvm_step X101.here [X101.here.top, hx, (hb hby dK_16), X101.method', Bd.returns, Value.isRef, FieldType.isReference]
    first | (intro acts; rw [hr _ acts rfl rfl rfl]) | rw [hr _ _ rfl rfl rfl]
    exact Steps.refl _
  · show QK w h0 n0 _ T101.heap _
    rw [e101]
    exact ⟨rfl, N0, rfl⟩
set_option maxRecDepth 65536 in
set_option maxHeartbeats 40000000 in
theorem rmK_2 (l : Launch) (Z : State) (a0 : Array Value) (hw : ∀ d ∈ tables_1, d.before a0 Z = true) (ws : List Jvm.Cond) (p1 : Int32) (w : Addr) (h0 : Heap) (n0 : Nat) (S : Sta Z h0 "com/example/tramway/tramway/idl/Token$Kind" "FLOATING" "Lcom/example/tramway/tramway/idl/Token$Kind;" (.ref w)) (z0 : ¬ (p1 = (0 : Int32))) (z1 : ¬ (p1 = (1 : Int32))) (y : p1 = (2 : Int32)) :
    MetFree l (⟨"com/example/tramway/tramway/idl/TokenIsPinLaw", "kind", "(I)Lcom/example/tramway/tramway/idl/Token$Kind;"⟩ : MethodName) (head1 (Jvm.Cond.code (⟨"com/example/tramway/tramway/idl/TokenIsPinLaw", "kind", "(I)Lcom/example/tramway/tramway/idl/Token$Kind;"⟩ : MethodName) method_2_code 1 (some (.object "com/example/tramway/tramway/idl/Token$Kind")) :: ws) ({ frames := 0, cells := 0, slots := 0, locals := 0 } : Room)) (fun a U => a = #[(.int p1)] ∧ Z.Warmed39 U.vm ∧ U.heap = h0) (fun _ _ _ _ _ => True) (fun _ U o U' => ∃ v L, o = .returned v ∧ QK w h0 n0 v U'.heap L ∧ FrameEnd U o U' L ({ frames := 0, cells := 0, slots := 0, locals := 0 } : Room).cells ({ frames := 0, cells := 0, slots := 0, locals := 0 } : Room).slots) := by
  refine MetFree.of_bodySF (plainFor_of_name pnL) hisR ?_
  intro p e s m args below meth c s₁ Bd hml0 hP hK
  obtain ⟨rfl, hZ, hh⟩ := hP
  have hx := Bd.exec
  have hby := Bd.bytes
  have hml : c.maxLocals = 1 := hml0
  have hown : s.vm.findClass "com/example/tramway/tramway/idl/TokenIsPinLaw" = some m.cls := findClass_of_methodNamed Bd.named
  have hnm := (name_of_methodNamed Bd.named Bd.method).1
  have X0 : Stand p l e ({ frames := 0, cells := 0, slots := 0, locals := 0 } : Room) s m #[(.int p1)] below meth c s₁ [] 0 0 := Stand.of_body Bd
  have e0 : s₁.heap = h0 := by rw [← hh, Bd.state]; rfl
  have N0 := Fr.nil n0
  have go0 : ∀ t, Steps p.tables e below (s₁.setTop (mkF m 0 #[.val (.int p1)] [])) t → Steps p.tables e below (s₁.setTop (entryFrame m #[(.int p1)] 1)) t := fun t k => castTop (efK m p1) k
  obtain ⟨T101, X101, e101, st101⟩ := getS2 X0 hx hZ hown (host := "") (Or.inl (hw _ (List.mem_of_getElem? (i := 94) rfl))) Via.refl e0 S (g := (mkF m 22 #[.val (.int p1)] [])) rfl (hb hby dK_22)
  obtain ⟨fs, hr, hrun, hended, hW, hsame⟩ := X101.leave (v := some (.ref w)) (fun h => by rw [Bd.returns] at h; cases h)
  refine ⟨_, _, go0 _ ?_, hrun, hended, _, _, rfl, ?_, ⟨_, rfl⟩, hW, hsame.mono (by decide) (by decide)⟩
  · show Steps p.tables e below (s₁.setTop (mkF m 0 #[.val (.int p1)] [])) _
    refine XS.iloadN X0.here hx rfl (hb hby dK_0) rfl ?_
    show Steps p.tables e below (s₁.setTop (mkF m 1 #[.val (.int p1)] [(.int p1)])) _
    refine XS.ifYes X0.here hx rfl (pc0 := 1) (pc' := 8) rfl (hb hby dK_1) rfl ((if0 _ _).trans (feq (z0 : ¬ (p1 = (0 : Int32)))).2) (by decide) (by decide) ?_
    show Steps p.tables e below (s₁.setTop (mkF m 8 #[.val (.int p1)] [])) _
    refine XS.iloadN X0.here hx rfl (hb hby dK_8) rfl ?_
    show Steps p.tables e below (s₁.setTop (mkF m 9 #[.val (.int p1)] [(.int p1)])) _
    refine XS.iconst X0.here hx rfl (hb hby dK_9) ?_
    show Steps p.tables e below (s₁.setTop (mkF m 10 #[.val (.int p1)] [(.int (1 : Int32)), (.int p1)])) _
    refine XS.icmpYes X0.here hx rfl (pc0 := 10) (pc' := 17) rfl (hb hby dK_10) rfl (feq (z1 : ¬ (p1 = (1 : Int32)))).2 (by decide) (by decide) ?_
    show Steps p.tables e below (s₁.setTop (mkF m 17 #[.val (.int p1)] [])) _
    refine XS.iloadN X0.here hx rfl (hb hby dK_17) rfl ?_
    show Steps p.tables e below (s₁.setTop (mkF m 18 #[.val (.int p1)] [(.int p1)])) _
    refine XS.iconst X0.here hx rfl (hb hby dK_18) ?_
    show Steps p.tables e below (s₁.setTop (mkF m 19 #[.val (.int p1)] [(.int (2 : Int32)), (.int p1)])) _
    refine XS.icmpNo X0.here hx rfl (hb hby dK_19) rfl (teq (y : p1 = (2 : Int32))).2 ?_
    show Steps p.tables e below (s₁.setTop (mkF m 22 #[.val (.int p1)] [])) _
    refine st101 _ ?_
    show Steps p.tables e below (T101.setTop (mkF m 25 #[.val (.int p1)] [(.ref w)])) _
    jvm_step X101.here [X101.here.top, hx, (hb hby dK_25), X101.method', Bd.returns, Value.isRef, FieldType.isReference]
    first | (intro acts; rw [hr _ acts rfl rfl rfl]) | rw [hr _ _ rfl rfl rfl]
    exact Steps.refl _
  · show QK w h0 n0 _ T101.heap _
    rw [e101]
    exact ⟨rfl, N0, rfl⟩
set_option maxRecDepth 65536 in
set_option maxHeartbeats 40000000 in
theorem rmK_3 (l : Launch) (Z : State) (a0 : Array Value) (hw : ∀ d ∈ tables_1, d.before a0 Z = true) (ws : List Jvm.Cond) (p1 : Int32) (w : Addr) (h0 : Heap) (n0 : Nat) (S : Sta Z h0 "com/example/tramway/tramway/idl/Token$Kind" "CHARACTER" "Lcom/example/tramway/tramway/idl/Token$Kind;" (.ref w)) (z0 : ¬ (p1 = (0 : Int32))) (z1 : ¬ (p1 = (1 : Int32))) (z2 : ¬ (p1 = (2 : Int32))) (y : p1 = (3 : Int32)) :
    MetFree l (⟨"com/example/tramway/tramway/idl/TokenIsPinLaw", "kind", "(I)Lcom/example/tramway/tramway/idl/Token$Kind;"⟩ : MethodName) (head1 (Jvm.Cond.code (⟨"com/example/tramway/tramway/idl/TokenIsPinLaw", "kind", "(I)Lcom/example/tramway/tramway/idl/Token$Kind;"⟩ : MethodName) method_2_code 1 (some (.object "com/example/tramway/tramway/idl/Token$Kind")) :: ws) ({ frames := 0, cells := 0, slots := 0, locals := 0 } : Room)) (fun a U => a = #[(.int p1)] ∧ Z.Warmed39 U.vm ∧ U.heap = h0) (fun _ _ _ _ _ => True) (fun _ U o U' => ∃ v L, o = .returned v ∧ QK w h0 n0 v U'.heap L ∧ FrameEnd U o U' L ({ frames := 0, cells := 0, slots := 0, locals := 0 } : Room).cells ({ frames := 0, cells := 0, slots := 0, locals := 0 } : Room).slots) := by
  refine MetFree.of_bodySF (plainFor_of_name pnL) hisR ?_
  intro p e s m args below meth c s₁ Bd hml0 hP hK
  obtain ⟨rfl, hZ, hh⟩ := hP
  have hx := Bd.exec
  have hby := Bd.bytes
  have hml : c.maxLocals = 1 := hml0
  have hown : s.vm.findClass "com/example/tramway/tramway/idl/TokenIsPinLaw" = some m.cls := findClass_of_methodNamed Bd.named
  have hnm := (name_of_methodNamed Bd.named Bd.method).1
  have X0 : Stand p l e ({ frames := 0, cells := 0, slots := 0, locals := 0 } : Room) s m #[(.int p1)] below meth c s₁ [] 0 0 := Stand.of_body Bd
  have e0 : s₁.heap = h0 := by rw [← hh, Bd.state]; rfl
  have N0 := Fr.nil n0
  have go0 : ∀ t, Steps p.tables e below (s₁.setTop (mkF m 0 #[.val (.int p1)] [])) t → Steps p.tables e below (s₁.setTop (entryFrame m #[(.int p1)] 1)) t := fun t k => castTop (efK m p1) k
  obtain ⟨T101, X101, e101, st101⟩ := getS2 X0 hx hZ hown (host := "") (Or.inl (hw _ (List.mem_of_getElem? (i := 108) rfl))) Via.refl e0 S (g := (mkF m 31 #[.val (.int p1)] [])) rfl (hb hby dK_31)
  obtain ⟨fs, hr, hrun, hended, hW, hsame⟩ := X101.leave (v := some (.ref w)) (fun h => by rw [Bd.returns] at h; cases h)
  refine ⟨_, _, go0 _ ?_, hrun, hended, _, _, rfl, ?_, ⟨_, rfl⟩, hW, hsame.mono (by decide) (by decide)⟩
  · show Steps p.tables e below (s₁.setTop (mkF m 0 #[.val (.int p1)] [])) _
    refine XS.iloadN X0.here hx rfl (hb hby dK_0) rfl ?_
    show Steps p.tables e below (s₁.setTop (mkF m 1 #[.val (.int p1)] [(.int p1)])) _
    refine XS.ifYes X0.here hx rfl (pc0 := 1) (pc' := 8) rfl (hb hby dK_1) rfl ((if0 _ _).trans (feq (z0 : ¬ (p1 = (0 : Int32)))).2) (by decide) (by decide) ?_
    show Steps p.tables e below (s₁.setTop (mkF m 8 #[.val (.int p1)] [])) _
    refine XS.iloadN X0.here hx rfl (hb hby dK_8) rfl ?_
    show Steps p.tables e below (s₁.setTop (mkF m 9 #[.val (.int p1)] [(.int p1)])) _
    refine XS.iconst X0.here hx rfl (hb hby dK_9) ?_
    show Steps p.tables e below (s₁.setTop (mkF m 10 #[.val (.int p1)] [(.int (1 : Int32)), (.int p1)])) _
    refine XS.icmpYes X0.here hx rfl (pc0 := 10) (pc' := 17) rfl (hb hby dK_10) rfl (feq (z1 : ¬ (p1 = (1 : Int32)))).2 (by decide) (by decide) ?_
    show Steps p.tables e below (s₁.setTop (mkF m 17 #[.val (.int p1)] [])) _
    refine XS.iloadN X0.here hx rfl (hb hby dK_17) rfl ?_
    show Steps p.tables e below (s₁.setTop (mkF m 18 #[.val (.int p1)] [(.int p1)])) _
    refine XS.iconst X0.here hx rfl (hb hby dK_18) ?_
    show Steps p.tables e below (s₁.setTop (mkF m 19 #[.val (.int p1)] [(.int (2 : Int32)), (.int p1)])) _
    refine XS.icmpYes X0.here hx rfl (pc0 := 19) (pc' := 26) rfl (hb hby dK_19) rfl (feq (z2 : ¬ (p1 = (2 : Int32)))).2 (by decide) (by decide) ?_
    show Steps p.tables e below (s₁.setTop (mkF m 26 #[.val (.int p1)] [])) _
    refine XS.iloadN X0.here hx rfl (hb hby dK_26) rfl ?_
    show Steps p.tables e below (s₁.setTop (mkF m 27 #[.val (.int p1)] [(.int p1)])) _
    refine XS.iconst X0.here hx rfl (hb hby dK_27) ?_
    show Steps p.tables e below (s₁.setTop (mkF m 28 #[.val (.int p1)] [(.int (3 : Int32)), (.int p1)])) _
    refine XS.icmpNo X0.here hx rfl (hb hby dK_28) rfl (teq (y : p1 = (3 : Int32))).2 ?_
    show Steps p.tables e below (s₁.setTop (mkF m 31 #[.val (.int p1)] [])) _
    refine st101 _ ?_
    show Steps p.tables e below (T101.setTop (mkF m 34 #[.val (.int p1)] [(.ref w)])) _
    jvm_step X101.here [X101.here.top, hx, (hb hby dK_34), X101.method', Bd.returns, Value.isRef, FieldType.isReference]
    first | (intro acts; rw [hr _ acts rfl rfl rfl]) | rw [hr _ _ rfl rfl rfl]
    exact Steps.refl _
  · show QK w h0 n0 _ T101.heap _
    rw [e101]
    exact ⟨rfl, N0, rfl⟩
set_option maxRecDepth 65536 in
set_option maxHeartbeats 40000000 in
theorem rmK_4 (l : Launch) (Z : State) (a0 : Array Value) (hw : ∀ d ∈ tables_1, d.before a0 Z = true) (ws : List Jvm.Cond) (p1 : Int32) (w : Addr) (h0 : Heap) (n0 : Nat) (S : Sta Z h0 "com/example/tramway/tramway/idl/Token$Kind" "WIDE_CHARACTER" "Lcom/example/tramway/tramway/idl/Token$Kind;" (.ref w)) (z0 : ¬ (p1 = (0 : Int32))) (z1 : ¬ (p1 = (1 : Int32))) (z2 : ¬ (p1 = (2 : Int32))) (z3 : ¬ (p1 = (3 : Int32))) (y : p1 = (4 : Int32)) :
    MetFree l (⟨"com/example/tramway/tramway/idl/TokenIsPinLaw", "kind", "(I)Lcom/example/tramway/tramway/idl/Token$Kind;"⟩ : MethodName) (head1 (Jvm.Cond.code (⟨"com/example/tramway/tramway/idl/TokenIsPinLaw", "kind", "(I)Lcom/example/tramway/tramway/idl/Token$Kind;"⟩ : MethodName) method_2_code 1 (some (.object "com/example/tramway/tramway/idl/Token$Kind")) :: ws) ({ frames := 0, cells := 0, slots := 0, locals := 0 } : Room)) (fun a U => a = #[(.int p1)] ∧ Z.Warmed39 U.vm ∧ U.heap = h0) (fun _ _ _ _ _ => True) (fun _ U o U' => ∃ v L, o = .returned v ∧ QK w h0 n0 v U'.heap L ∧ FrameEnd U o U' L ({ frames := 0, cells := 0, slots := 0, locals := 0 } : Room).cells ({ frames := 0, cells := 0, slots := 0, locals := 0 } : Room).slots) := by
  refine MetFree.of_bodySF (plainFor_of_name pnL) hisR ?_
  intro p e s m args below meth c s₁ Bd hml0 hP hK
  obtain ⟨rfl, hZ, hh⟩ := hP
  have hx := Bd.exec
  have hby := Bd.bytes
  have hml : c.maxLocals = 1 := hml0
  have hown : s.vm.findClass "com/example/tramway/tramway/idl/TokenIsPinLaw" = some m.cls := findClass_of_methodNamed Bd.named
  have hnm := (name_of_methodNamed Bd.named Bd.method).1
  have X0 : Stand p l e ({ frames := 0, cells := 0, slots := 0, locals := 0 } : Room) s m #[(.int p1)] below meth c s₁ [] 0 0 := Stand.of_body Bd
  have e0 : s₁.heap = h0 := by rw [← hh, Bd.state]; rfl
  have N0 := Fr.nil n0
  have go0 : ∀ t, Steps p.tables e below (s₁.setTop (mkF m 0 #[.val (.int p1)] [])) t → Steps p.tables e below (s₁.setTop (entryFrame m #[(.int p1)] 1)) t := fun t k => castTop (efK m p1) k
  obtain ⟨T101, X101, e101, st101⟩ := getS2 X0 hx hZ hown (host := "") (Or.inl (hw _ (List.mem_of_getElem? (i := 90) rfl))) Via.refl e0 S (g := (mkF m 40 #[.val (.int p1)] [])) rfl (hb hby dK_40)
  obtain ⟨fs, hr, hrun, hended, hW, hsame⟩ := X101.leave (v := some (.ref w)) (fun h => by rw [Bd.returns] at h; cases h)
  refine ⟨_, _, go0 _ ?_, hrun, hended, _, _, rfl, ?_, ⟨_, rfl⟩, hW, hsame.mono (by decide) (by decide)⟩
  · show Steps p.tables e below (s₁.setTop (mkF m 0 #[.val (.int p1)] [])) _
    refine XS.iloadN X0.here hx rfl (hb hby dK_0) rfl ?_
    show Steps p.tables e below (s₁.setTop (mkF m 1 #[.val (.int p1)] [(.int p1)])) _
    refine XS.ifYes X0.here hx rfl (pc0 := 1) (pc' := 8) rfl (hb hby dK_1) rfl ((if0 _ _).trans (feq (z0 : ¬ (p1 = (0 : Int32)))).2) (by decide) (by decide) ?_
    show Steps p.tables e below (s₁.setTop (mkF m 8 #[.val (.int p1)] [])) _
    refine XS.iloadN X0.here hx rfl (hb hby dK_8) rfl ?_
    show Steps p.tables e below (s₁.setTop (mkF m 9 #[.val (.int p1)] [(.int p1)])) _
    refine XS.iconst X0.here hx rfl (hb hby dK_9) ?_
    show Steps p.tables e below (s₁.setTop (mkF m 10 #[.val (.int p1)] [(.int (1 : Int32)), (.int p1)])) _
    refine XS.icmpYes X0.here hx rfl (pc0 := 10) (pc' := 17) rfl (hb hby dK_10) rfl (feq (z1 : ¬ (p1 = (1 : Int32)))).2 (by decide) (by decide) ?_
    show Steps p.tables e below (s₁.setTop (mkF m 17 #[.val (.int p1)] [])) _
    refine XS.iloadN X0.here hx rfl (hb hby dK_17) rfl ?_
    show Steps p.tables e below (s₁.setTop (mkF m 18 #[.val (.int p1)] [(.int p1)])) _
    refine XS.iconst X0.here hx rfl (hb hby dK_18) ?_
    show Steps p.tables e below (s₁.setTop (mkF m 19 #[.val (.int p1)] [(.int (2 : Int32)), (.int p1)])) _
    refine XS.icmpYes X0.here hx rfl (pc0 := 19) (pc' := 26) rfl (hb hby dK_19) rfl (feq (z2 : ¬ (p1 = (2 : Int32)))).2 (by decide) (by decide) ?_
    show Steps p.tables e below (s₁.setTop (mkF m 26 #[.val (.int p1)] [])) _
    refine XS.iloadN X0.here hx rfl (hb hby dK_26) rfl ?_
    show Steps p.tables e below (s₁.setTop (mkF m 27 #[.val (.int p1)] [(.int p1)])) _
    refine XS.iconst X0.here hx rfl (hb hby dK_27) ?_
    show Steps p.tables e below (s₁.setTop (mkF m 28 #[.val (.int p1)] [(.int (3 : Int32)), (.int p1)])) _
    refine XS.icmpYes X0.here hx rfl (pc0 := 28) (pc' := 35) rfl (hb hby dK_28) rfl (feq (z3 : ¬ (p1 = (3 : Int32)))).2 (by decide) (by decide) ?_
    show Steps p.tables e below (s₁.setTop (mkF m 35 #[.val (.int p1)] [])) _
    refine XS.iloadN X0.here hx rfl (hb hby dK_35) rfl ?_
    show Steps p.tables e below (s₁.setTop (mkF m 36 #[.val (.int p1)] [(.int p1)])) _
    refine XS.iconst X0.here hx rfl (hb hby dK_36) ?_
    show Steps p.tables e below (s₁.setTop (mkF m 37 #[.val (.int p1)] [(.int (4 : Int32)), (.int p1)])) _
    refine XS.icmpNo X0.here hx rfl (hb hby dK_37) rfl (teq (y : p1 = (4 : Int32))).2 ?_
    show Steps p.tables e below (s₁.setTop (mkF m 40 #[.val (.int p1)] [])) _
    refine st101 _ ?_
    show Steps p.tables e below (T101.setTop (mkF m 43 #[.val (.int p1)] [(.ref w)])) _
    jvm_step X101.here [X101.here.top, hx, (hb hby dK_43), X101.method', Bd.returns, Value.isRef, FieldType.isReference]
    first | (intro acts; rw [hr _ acts rfl rfl rfl]) | rw [hr _ _ rfl rfl rfl]
    exact Steps.refl _
  · show QK w h0 n0 _ T101.heap _
    rw [e101]
    exact ⟨rfl, N0, rfl⟩
set_option maxRecDepth 65536 in
set_option maxHeartbeats 40000000 in
theorem rmK_5 (l : Launch) (Z : State) (a0 : Array Value) (hw : ∀ d ∈ tables_1, d.before a0 Z = true) (ws : List Jvm.Cond) (p1 : Int32) (w : Addr) (h0 : Heap) (n0 : Nat) (S : Sta Z h0 "com/example/tramway/tramway/idl/Token$Kind" "STRING" "Lcom/example/tramway/tramway/idl/Token$Kind;" (.ref w)) (z0 : ¬ (p1 = (0 : Int32))) (z1 : ¬ (p1 = (1 : Int32))) (z2 : ¬ (p1 = (2 : Int32))) (z3 : ¬ (p1 = (3 : Int32))) (z4 : ¬ (p1 = (4 : Int32))) (y : p1 = (5 : Int32)) :
    MetFree l (⟨"com/example/tramway/tramway/idl/TokenIsPinLaw", "kind", "(I)Lcom/example/tramway/tramway/idl/Token$Kind;"⟩ : MethodName) (head1 (Jvm.Cond.code (⟨"com/example/tramway/tramway/idl/TokenIsPinLaw", "kind", "(I)Lcom/example/tramway/tramway/idl/Token$Kind;"⟩ : MethodName) method_2_code 1 (some (.object "com/example/tramway/tramway/idl/Token$Kind")) :: ws) ({ frames := 0, cells := 0, slots := 0, locals := 0 } : Room)) (fun a U => a = #[(.int p1)] ∧ Z.Warmed39 U.vm ∧ U.heap = h0) (fun _ _ _ _ _ => True) (fun _ U o U' => ∃ v L, o = .returned v ∧ QK w h0 n0 v U'.heap L ∧ FrameEnd U o U' L ({ frames := 0, cells := 0, slots := 0, locals := 0 } : Room).cells ({ frames := 0, cells := 0, slots := 0, locals := 0 } : Room).slots) := by
  refine MetFree.of_bodySF (plainFor_of_name pnL) hisR ?_
  intro p e s m args below meth c s₁ Bd hml0 hP hK
  obtain ⟨rfl, hZ, hh⟩ := hP
  have hx := Bd.exec
  have hby := Bd.bytes
  have hml : c.maxLocals = 1 := hml0
  have hown : s.vm.findClass "com/example/tramway/tramway/idl/TokenIsPinLaw" = some m.cls := findClass_of_methodNamed Bd.named
  have hnm := (name_of_methodNamed Bd.named Bd.method).1
  have X0 : Stand p l e ({ frames := 0, cells := 0, slots := 0, locals := 0 } : Room) s m #[(.int p1)] below meth c s₁ [] 0 0 := Stand.of_body Bd
  have e0 : s₁.heap = h0 := by rw [← hh, Bd.state]; rfl
  have N0 := Fr.nil n0
  have go0 : ∀ t, Steps p.tables e below (s₁.setTop (mkF m 0 #[.val (.int p1)] [])) t → Steps p.tables e below (s₁.setTop (entryFrame m #[(.int p1)] 1)) t := fun t k => castTop (efK m p1) k
  obtain ⟨T101, X101, e101, st101⟩ := getS2 X0 hx hZ hown (host := "") (Or.inl (hw _ (List.mem_of_getElem? (i := 110) rfl))) Via.refl e0 S (g := (mkF m 49 #[.val (.int p1)] [])) rfl (hb hby dK_49)
  obtain ⟨fs, hr, hrun, hended, hW, hsame⟩ := X101.leave (v := some (.ref w)) (fun h => by rw [Bd.returns] at h; cases h)
  refine ⟨_, _, go0 _ ?_, hrun, hended, _, _, rfl, ?_, ⟨_, rfl⟩, hW, hsame.mono (by decide) (by decide)⟩
  · show Steps p.tables e below (s₁.setTop (mkF m 0 #[.val (.int p1)] [])) _
    refine XS.iloadN X0.here hx rfl (hb hby dK_0) rfl ?_
    show Steps p.tables e below (s₁.setTop (mkF m 1 #[.val (.int p1)] [(.int p1)])) _
    refine XS.ifYes X0.here hx rfl (pc0 := 1) (pc' := 8) rfl (hb hby dK_1) rfl ((if0 _ _).trans (feq (z0 : ¬ (p1 = (0 : Int32)))).2) (by decide) (by decide) ?_
    show Steps p.tables e below (s₁.setTop (mkF m 8 #[.val (.int p1)] [])) _
    refine XS.iloadN X0.here hx rfl (hb hby dK_8) rfl ?_
    show Steps p.tables e below (s₁.setTop (mkF m 9 #[.val (.int p1)] [(.int p1)])) _
    refine XS.iconst X0.here hx rfl (hb hby dK_9) ?_
    show Steps p.tables e below (s₁.setTop (mkF m 10 #[.val (.int p1)] [(.int (1 : Int32)), (.int p1)])) _
    refine XS.icmpYes X0.here hx rfl (pc0 := 10) (pc' := 17) rfl (hb hby dK_10) rfl (feq (z1 : ¬ (p1 = (1 : Int32)))).2 (by decide) (by decide) ?_
    show Steps p.tables e below (s₁.setTop (mkF m 17 #[.val (.int p1)] [])) _
    refine XS.iloadN X0.here hx rfl (hb hby dK_17) rfl ?_
    show Steps p.tables e below (s₁.setTop (mkF m 18 #[.val (.int p1)] [(.int p1)])) _
    refine XS.iconst X0.here hx rfl (hb hby dK_18) ?_
    show Steps p.tables e below (s₁.setTop (mkF m 19 #[.val (.int p1)] [(.int (2 : Int32)), (.int p1)])) _
    refine XS.icmpYes X0.here hx rfl (pc0 := 19) (pc' := 26) rfl (hb hby dK_19) rfl (feq (z2 : ¬ (p1 = (2 : Int32)))).2 (by decide) (by decide) ?_
    show Steps p.tables e below (s₁.setTop (mkF m 26 #[.val (.int p1)] [])) _
    refine XS.iloadN X0.here hx rfl (hb hby dK_26) rfl ?_
    show Steps p.tables e below (s₁.setTop (mkF m 27 #[.val (.int p1)] [(.int p1)])) _
    refine XS.iconst X0.here hx rfl (hb hby dK_27) ?_
    show Steps p.tables e below (s₁.setTop (mkF m 28 #[.val (.int p1)] [(.int (3 : Int32)), (.int p1)])) _
    refine XS.icmpYes X0.here hx rfl (pc0 := 28) (pc' := 35) rfl (hb hby dK_28) rfl (feq (z3 : ¬ (p1 = (3 : Int32)))).2 (by decide) (by decide) ?_
    show Steps p.tables e below (s₁.setTop (mkF m 35 #[.val (.int p1)] [])) _
    refine XS.iloadN X0.here hx rfl (hb hby dK_35) rfl ?_
    show Steps p.tables e below (s₁.setTop (mkF m 36 #[.val (.int p1)] [(.int p1)])) _
    refine XS.iconst X0.here hx rfl (hb hby dK_36) ?_
    show Steps p.tables e below (s₁.setTop (mkF m 37 #[.val (.int p1)] [(.int (4 : Int32)), (.int p1)])) _
    refine XS.icmpYes X0.here hx rfl (pc0 := 37) (pc' := 44) rfl (hb hby dK_37) rfl (feq (z4 : ¬ (p1 = (4 : Int32)))).2 (by decide) (by decide) ?_
    show Steps p.tables e below (s₁.setTop (mkF m 44 #[.val (.int p1)] [])) _
    refine XS.iloadN X0.here hx rfl (hb hby dK_44) rfl ?_
    show Steps p.tables e below (s₁.setTop (mkF m 45 #[.val (.int p1)] [(.int p1)])) _
    refine XS.iconst X0.here hx rfl (hb hby dK_45) ?_
    show Steps p.tables e below (s₁.setTop (mkF m 46 #[.val (.int p1)] [(.int (5 : Int32)), (.int p1)])) _
    refine XS.icmpNo X0.here hx rfl (hb hby dK_46) rfl (teq (y : p1 = (5 : Int32))).2 ?_
    show Steps p.tables e below (s₁.setTop (mkF m 49 #[.val (.int p1)] [])) _
    refine st101 _ ?_
    show Steps p.tables e below (T101.setTop (mkF m 52 #[.val (.int p1)] [(.ref w)])) _
    jvm_step X101.here [X101.here.top, hx, (hb hby dK_52), X101.method', Bd.returns, Value.isRef, FieldType.isReference]
    first | (intro acts; rw [hr _ acts rfl rfl rfl]) | rw [hr _ _ rfl rfl rfl]
    exact Steps.refl _
  · show QK w h0 n0 _ T101.heap _
    rw [e101]
    exact ⟨rfl, N0, rfl⟩
set_option maxRecDepth 65536 in
set_option maxHeartbeats 40000000 in
theorem rmK_6 (l : Launch) (Z : State) (a0 : Array Value) (hw : ∀ d ∈ tables_1, d.before a0 Z = true) (ws : List Jvm.Cond) (p1 : Int32) (w : Addr) (h0 : Heap) (n0 : Nat) (S : Sta Z h0 "com/example/tramway/tramway/idl/Token$Kind" "WIDE_STRING" "Lcom/example/tramway/tramway/idl/Token$Kind;" (.ref w)) (z0 : ¬ (p1 = (0 : Int32))) (z1 : ¬ (p1 = (1 : Int32))) (z2 : ¬ (p1 = (2 : Int32))) (z3 : ¬ (p1 = (3 : Int32))) (z4 : ¬ (p1 = (4 : Int32))) (z5 : ¬ (p1 = (5 : Int32))) (y : p1 = (6 : Int32)) :
    MetFree l (⟨"com/example/tramway/tramway/idl/TokenIsPinLaw", "kind", "(I)Lcom/example/tramway/tramway/idl/Token$Kind;"⟩ : MethodName) (head1 (Jvm.Cond.code (⟨"com/example/tramway/tramway/idl/TokenIsPinLaw", "kind", "(I)Lcom/example/tramway/tramway/idl/Token$Kind;"⟩ : MethodName) method_2_code 1 (some (.object "com/example/tramway/tramway/idl/Token$Kind")) :: ws) ({ frames := 0, cells := 0, slots := 0, locals := 0 } : Room)) (fun a U => a = #[(.int p1)] ∧ Z.Warmed39 U.vm ∧ U.heap = h0) (fun _ _ _ _ _ => True) (fun _ U o U' => ∃ v L, o = .returned v ∧ QK w h0 n0 v U'.heap L ∧ FrameEnd U o U' L ({ frames := 0, cells := 0, slots := 0, locals := 0 } : Room).cells ({ frames := 0, cells := 0, slots := 0, locals := 0 } : Room).slots) := by
  refine MetFree.of_bodySF (plainFor_of_name pnL) hisR ?_
  intro p e s m args below meth c s₁ Bd hml0 hP hK
  obtain ⟨rfl, hZ, hh⟩ := hP
  have hx := Bd.exec
  have hby := Bd.bytes
  have hml : c.maxLocals = 1 := hml0
  have hown : s.vm.findClass "com/example/tramway/tramway/idl/TokenIsPinLaw" = some m.cls := findClass_of_methodNamed Bd.named
  have hnm := (name_of_methodNamed Bd.named Bd.method).1
  have X0 : Stand p l e ({ frames := 0, cells := 0, slots := 0, locals := 0 } : Room) s m #[(.int p1)] below meth c s₁ [] 0 0 := Stand.of_body Bd
  have e0 : s₁.heap = h0 := by rw [← hh, Bd.state]; rfl
  have N0 := Fr.nil n0
  have go0 : ∀ t, Steps p.tables e below (s₁.setTop (mkF m 0 #[.val (.int p1)] [])) t → Steps p.tables e below (s₁.setTop (entryFrame m #[(.int p1)] 1)) t := fun t k => castTop (efK m p1) k
  obtain ⟨T101, X101, e101, st101⟩ := getS2 X0 hx hZ hown (host := "") (Or.inl (hw _ (List.mem_of_getElem? (i := 98) rfl))) Via.refl e0 S (g := (mkF m 59 #[.val (.int p1)] [])) rfl (hb hby dK_59)
  obtain ⟨fs, hr, hrun, hended, hW, hsame⟩ := X101.leave (v := some (.ref w)) (fun h => by rw [Bd.returns] at h; cases h)
  refine ⟨_, _, go0 _ ?_, hrun, hended, _, _, rfl, ?_, ⟨_, rfl⟩, hW, hsame.mono (by decide) (by decide)⟩
  · show Steps p.tables e below (s₁.setTop (mkF m 0 #[.val (.int p1)] [])) _
    refine XS.iloadN X0.here hx rfl (hb hby dK_0) rfl ?_
    show Steps p.tables e below (s₁.setTop (mkF m 1 #[.val (.int p1)] [(.int p1)])) _
    refine XS.ifYes X0.here hx rfl (pc0 := 1) (pc' := 8) rfl (hb hby dK_1) rfl ((if0 _ _).trans (feq (z0 : ¬ (p1 = (0 : Int32)))).2) (by decide) (by decide) ?_
    show Steps p.tables e below (s₁.setTop (mkF m 8 #[.val (.int p1)] [])) _
    refine XS.iloadN X0.here hx rfl (hb hby dK_8) rfl ?_
    show Steps p.tables e below (s₁.setTop (mkF m 9 #[.val (.int p1)] [(.int p1)])) _
    refine XS.iconst X0.here hx rfl (hb hby dK_9) ?_
    show Steps p.tables e below (s₁.setTop (mkF m 10 #[.val (.int p1)] [(.int (1 : Int32)), (.int p1)])) _
    refine XS.icmpYes X0.here hx rfl (pc0 := 10) (pc' := 17) rfl (hb hby dK_10) rfl (feq (z1 : ¬ (p1 = (1 : Int32)))).2 (by decide) (by decide) ?_
    show Steps p.tables e below (s₁.setTop (mkF m 17 #[.val (.int p1)] [])) _
    refine XS.iloadN X0.here hx rfl (hb hby dK_17) rfl ?_
    show Steps p.tables e below (s₁.setTop (mkF m 18 #[.val (.int p1)] [(.int p1)])) _
    refine XS.iconst X0.here hx rfl (hb hby dK_18) ?_
    show Steps p.tables e below (s₁.setTop (mkF m 19 #[.val (.int p1)] [(.int (2 : Int32)), (.int p1)])) _
    refine XS.icmpYes X0.here hx rfl (pc0 := 19) (pc' := 26) rfl (hb hby dK_19) rfl (feq (z2 : ¬ (p1 = (2 : Int32)))).2 (by decide) (by decide) ?_
    show Steps p.tables e below (s₁.setTop (mkF m 26 #[.val (.int p1)] [])) _
    refine XS.iloadN X0.here hx rfl (hb hby dK_26) rfl ?_
    show Steps p.tables e below (s₁.setTop (mkF m 27 #[.val (.int p1)] [(.int p1)])) _
    refine XS.iconst X0.here hx rfl (hb hby dK_27) ?_
    show Steps p.tables e below (s₁.setTop (mkF m 28 #[.val (.int p1)] [(.int (3 : Int32)), (.int p1)])) _
    refine XS.icmpYes X0.here hx rfl (pc0 := 28) (pc' := 35) rfl (hb hby dK_28) rfl (feq (z3 : ¬ (p1 = (3 : Int32)))).2 (by decide) (by decide) ?_
    show Steps p.tables e below (s₁.setTop (mkF m 35 #[.val (.int p1)] [])) _
    refine XS.iloadN X0.here hx rfl (hb hby dK_35) rfl ?_
    show Steps p.tables e below (s₁.setTop (mkF m 36 #[.val (.int p1)] [(.int p1)])) _
    refine XS.iconst X0.here hx rfl (hb hby dK_36) ?_
    show Steps p.tables e below (s₁.setTop (mkF m 37 #[.val (.int p1)] [(.int (4 : Int32)), (.int p1)])) _
    refine XS.icmpYes X0.here hx rfl (pc0 := 37) (pc' := 44) rfl (hb hby dK_37) rfl (feq (z4 : ¬ (p1 = (4 : Int32)))).2 (by decide) (by decide) ?_
    show Steps p.tables e below (s₁.setTop (mkF m 44 #[.val (.int p1)] [])) _
    refine XS.iloadN X0.here hx rfl (hb hby dK_44) rfl ?_
    show Steps p.tables e below (s₁.setTop (mkF m 45 #[.val (.int p1)] [(.int p1)])) _
    refine XS.iconst X0.here hx rfl (hb hby dK_45) ?_
    show Steps p.tables e below (s₁.setTop (mkF m 46 #[.val (.int p1)] [(.int (5 : Int32)), (.int p1)])) _
    refine XS.icmpYes X0.here hx rfl (pc0 := 46) (pc' := 53) rfl (hb hby dK_46) rfl (feq (z5 : ¬ (p1 = (5 : Int32)))).2 (by decide) (by decide) ?_
    show Steps p.tables e below (s₁.setTop (mkF m 53 #[.val (.int p1)] [])) _
    refine XS.iloadN X0.here hx rfl (hb hby dK_53) rfl ?_
    show Steps p.tables e below (s₁.setTop (mkF m 54 #[.val (.int p1)] [(.int p1)])) _
    refine XS.bipush X0.here hx rfl (hb hby dK_54) ?_
    show Steps p.tables e below (s₁.setTop (mkF m 56 #[.val (.int p1)] [(.int (6 : Int32)), (.int p1)])) _
    refine XS.icmpNo X0.here hx rfl (hb hby dK_56) rfl (teq (y : p1 = (6 : Int32))).2 ?_
    show Steps p.tables e below (s₁.setTop (mkF m 59 #[.val (.int p1)] [])) _
    refine st101 _ ?_
    show Steps p.tables e below (T101.setTop (mkF m 62 #[.val (.int p1)] [(.ref w)])) _
    jvm_step X101.here [X101.here.top, hx, (hb hby dK_62), X101.method', Bd.returns, Value.isRef, FieldType.isReference]
    first | (intro acts; rw [hr _ acts rfl rfl rfl]) | rw [hr _ _ rfl rfl rfl]
    exact Steps.refl _
  · show QK w h0 n0 _ T101.heap _
    rw [e101]
    exact ⟨rfl, N0, rfl⟩
set_option maxRecDepth 65536 in
set_option maxHeartbeats 40000000 in
theorem rmK_7 (l : Launch) (Z : State) (a0 : Array Value) (hw : ∀ d ∈ tables_1, d.before a0 Z = true) (ws : List Jvm.Cond) (p1 : Int32) (w : Addr) (h0 : Heap) (n0 : Nat) (S : Sta Z h0 "com/example/tramway/tramway/idl/Token$Kind" "PUNCTUATOR" "Lcom/example/tramway/tramway/idl/Token$Kind;" (.ref w)) (z0 : ¬ (p1 = (0 : Int32))) (z1 : ¬ (p1 = (1 : Int32))) (z2 : ¬ (p1 = (2 : Int32))) (z3 : ¬ (p1 = (3 : Int32))) (z4 : ¬ (p1 = (4 : Int32))) (z5 : ¬ (p1 = (5 : Int32))) (z6 : ¬ (p1 = (6 : Int32))) (y : p1 = (7 : Int32)) :
    MetFree l (⟨"com/example/tramway/tramway/idl/TokenIsPinLaw", "kind", "(I)Lcom/example/tramway/tramway/idl/Token$Kind;"⟩ : MethodName) (head1 (Jvm.Cond.code (⟨"com/example/tramway/tramway/idl/TokenIsPinLaw", "kind", "(I)Lcom/example/tramway/tramway/idl/Token$Kind;"⟩ : MethodName) method_2_code 1 (some (.object "com/example/tramway/tramway/idl/Token$Kind")) :: ws) ({ frames := 0, cells := 0, slots := 0, locals := 0 } : Room)) (fun a U => a = #[(.int p1)] ∧ Z.Warmed39 U.vm ∧ U.heap = h0) (fun _ _ _ _ _ => True) (fun _ U o U' => ∃ v L, o = .returned v ∧ QK w h0 n0 v U'.heap L ∧ FrameEnd U o U' L ({ frames := 0, cells := 0, slots := 0, locals := 0 } : Room).cells ({ frames := 0, cells := 0, slots := 0, locals := 0 } : Room).slots) := by
  refine MetFree.of_bodySF (plainFor_of_name pnL) hisR ?_
  intro p e s m args below meth c s₁ Bd hml0 hP hK
  obtain ⟨rfl, hZ, hh⟩ := hP
  have hx := Bd.exec
  have hby := Bd.bytes
  have hml : c.maxLocals = 1 := hml0
  have hown : s.vm.findClass "com/example/tramway/tramway/idl/TokenIsPinLaw" = some m.cls := findClass_of_methodNamed Bd.named
  have hnm := (name_of_methodNamed Bd.named Bd.method).1
  have X0 : Stand p l e ({ frames := 0, cells := 0, slots := 0, locals := 0 } : Room) s m #[(.int p1)] below meth c s₁ [] 0 0 := Stand.of_body Bd
  have e0 : s₁.heap = h0 := by rw [← hh, Bd.state]; rfl
  have N0 := Fr.nil n0
  have go0 : ∀ t, Steps p.tables e below (s₁.setTop (mkF m 0 #[.val (.int p1)] [])) t → Steps p.tables e below (s₁.setTop (entryFrame m #[(.int p1)] 1)) t := fun t k => castTop (efK m p1) k
  obtain ⟨T101, X101, e101, st101⟩ := getS2 X0 hx hZ hown (host := "") (Or.inl (hw _ (List.mem_of_getElem? (i := 120) rfl))) Via.refl e0 S (g := (mkF m 69 #[.val (.int p1)] [])) rfl (hb hby dK_69)
  obtain ⟨fs, hr, hrun, hended, hW, hsame⟩ := X101.leave (v := some (.ref w)) (fun h => by rw [Bd.returns] at h; cases h)
  refine ⟨_, _, go0 _ ?_, hrun, hended, _, _, rfl, ?_, ⟨_, rfl⟩, hW, hsame.mono (by decide) (by decide)⟩
  · show Steps p.tables e below (s₁.setTop (mkF m 0 #[.val (.int p1)] [])) _
    refine XS.iloadN X0.here hx rfl (hb hby dK_0) rfl ?_
    show Steps p.tables e below (s₁.setTop (mkF m 1 #[.val (.int p1)] [(.int p1)])) _
    refine XS.ifYes X0.here hx rfl (pc0 := 1) (pc' := 8) rfl (hb hby dK_1) rfl ((if0 _ _).trans (feq (z0 : ¬ (p1 = (0 : Int32)))).2) (by decide) (by decide) ?_
    show Steps p.tables e below (s₁.setTop (mkF m 8 #[.val (.int p1)] [])) _
    refine XS.iloadN X0.here hx rfl (hb hby dK_8) rfl ?_
    show Steps p.tables e below (s₁.setTop (mkF m 9 #[.val (.int p1)] [(.int p1)])) _
    refine XS.iconst X0.here hx rfl (hb hby dK_9) ?_
    show Steps p.tables e below (s₁.setTop (mkF m 10 #[.val (.int p1)] [(.int (1 : Int32)), (.int p1)])) _
    refine XS.icmpYes X0.here hx rfl (pc0 := 10) (pc' := 17) rfl (hb hby dK_10) rfl (feq (z1 : ¬ (p1 = (1 : Int32)))).2 (by decide) (by decide) ?_
    show Steps p.tables e below (s₁.setTop (mkF m 17 #[.val (.int p1)] [])) _
    refine XS.iloadN X0.here hx rfl (hb hby dK_17) rfl ?_
    show Steps p.tables e below (s₁.setTop (mkF m 18 #[.val (.int p1)] [(.int p1)])) _
    refine XS.iconst X0.here hx rfl (hb hby dK_18) ?_
    show Steps p.tables e below (s₁.setTop (mkF m 19 #[.val (.int p1)] [(.int (2 : Int32)), (.int p1)])) _
    refine XS.icmpYes X0.here hx rfl (pc0 := 19) (pc' := 26) rfl (hb hby dK_19) rfl (feq (z2 : ¬ (p1 = (2 : Int32)))).2 (by decide) (by decide) ?_
    show Steps p.tables e below (s₁.setTop (mkF m 26 #[.val (.int p1)] [])) _
    refine XS.iloadN X0.here hx rfl (hb hby dK_26) rfl ?_
    show Steps p.tables e below (s₁.setTop (mkF m 27 #[.val (.int p1)] [(.int p1)])) _
    refine XS.iconst X0.here hx rfl (hb hby dK_27) ?_
    show Steps p.tables e below (s₁.setTop (mkF m 28 #[.val (.int p1)] [(.int (3 : Int32)), (.int p1)])) _
    refine XS.icmpYes X0.here hx rfl (pc0 := 28) (pc' := 35) rfl (hb hby dK_28) rfl (feq (z3 : ¬ (p1 = (3 : Int32)))).2 (by decide) (by decide) ?_
    show Steps p.tables e below (s₁.setTop (mkF m 35 #[.val (.int p1)] [])) _
    refine XS.iloadN X0.here hx rfl (hb hby dK_35) rfl ?_
    show Steps p.tables e below (s₁.setTop (mkF m 36 #[.val (.int p1)] [(.int p1)])) _
    refine XS.iconst X0.here hx rfl (hb hby dK_36) ?_
    show Steps p.tables e below (s₁.setTop (mkF m 37 #[.val (.int p1)] [(.int (4 : Int32)), (.int p1)])) _
    refine XS.icmpYes X0.here hx rfl (pc0 := 37) (pc' := 44) rfl (hb hby dK_37) rfl (feq (z4 : ¬ (p1 = (4 : Int32)))).2 (by decide) (by decide) ?_
    show Steps p.tables e below (s₁.setTop (mkF m 44 #[.val (.int p1)] [])) _
    refine XS.iloadN X0.here hx rfl (hb hby dK_44) rfl ?_
    show Steps p.tables e below (s₁.setTop (mkF m 45 #[.val (.int p1)] [(.int p1)])) _
    refine XS.iconst X0.here hx rfl (hb hby dK_45) ?_
    show Steps p.tables e below (s₁.setTop (mkF m 46 #[.val (.int p1)] [(.int (5 : Int32)), (.int p1)])) _
    refine XS.icmpYes X0.here hx rfl (pc0 := 46) (pc' := 53) rfl (hb hby dK_46) rfl (feq (z5 : ¬ (p1 = (5 : Int32)))).2 (by decide) (by decide) ?_
    show Steps p.tables e below (s₁.setTop (mkF m 53 #[.val (.int p1)] [])) _
    refine XS.iloadN X0.here hx rfl (hb hby dK_53) rfl ?_
    show Steps p.tables e below (s₁.setTop (mkF m 54 #[.val (.int p1)] [(.int p1)])) _
    refine XS.bipush X0.here hx rfl (hb hby dK_54) ?_
    show Steps p.tables e below (s₁.setTop (mkF m 56 #[.val (.int p1)] [(.int (6 : Int32)), (.int p1)])) _
    refine XS.icmpYes X0.here hx rfl (pc0 := 56) (pc' := 63) rfl (hb hby dK_56) rfl (feq (z6 : ¬ (p1 = (6 : Int32)))).2 (by decide) (by decide) ?_
    show Steps p.tables e below (s₁.setTop (mkF m 63 #[.val (.int p1)] [])) _
    refine XS.iloadN X0.here hx rfl (hb hby dK_63) rfl ?_
    show Steps p.tables e below (s₁.setTop (mkF m 64 #[.val (.int p1)] [(.int p1)])) _
    refine XS.bipush X0.here hx rfl (hb hby dK_64) ?_
    show Steps p.tables e below (s₁.setTop (mkF m 66 #[.val (.int p1)] [(.int (7 : Int32)), (.int p1)])) _
    refine XS.icmpNo X0.here hx rfl (hb hby dK_66) rfl (teq (y : p1 = (7 : Int32))).2 ?_
    show Steps p.tables e below (s₁.setTop (mkF m 69 #[.val (.int p1)] [])) _
    refine st101 _ ?_
    show Steps p.tables e below (T101.setTop (mkF m 72 #[.val (.int p1)] [(.ref w)])) _
    jvm_step X101.here [X101.here.top, hx, (hb hby dK_72), X101.method', Bd.returns, Value.isRef, FieldType.isReference]
    first | (intro acts; rw [hr _ acts rfl rfl rfl]) | rw [hr _ _ rfl rfl rfl]
    exact Steps.refl _
  · show QK w h0 n0 _ T101.heap _
    rw [e101]
    exact ⟨rfl, N0, rfl⟩
set_option maxRecDepth 65536 in
set_option maxHeartbeats 40000000 in
theorem rmK_8 (l : Launch) (Z : State) (a0 : Array Value) (hw : ∀ d ∈ tables_1, d.before a0 Z = true) (ws : List Jvm.Cond) (p1 : Int32) (w : Addr) (h0 : Heap) (n0 : Nat) (S : Sta Z h0 "com/example/tramway/tramway/idl/Token$Kind" "NEWLINE" "Lcom/example/tramway/tramway/idl/Token$Kind;" (.ref w)) (z0 : ¬ (p1 = (0 : Int32))) (z1 : ¬ (p1 = (1 : Int32))) (z2 : ¬ (p1 = (2 : Int32))) (z3 : ¬ (p1 = (3 : Int32))) (z4 : ¬ (p1 = (4 : Int32))) (z5 : ¬ (p1 = (5 : Int32))) (z6 : ¬ (p1 = (6 : Int32))) (z7 : ¬ (p1 = (7 : Int32))) (y : p1 = (8 : Int32)) :
    MetFree l (⟨"com/example/tramway/tramway/idl/TokenIsPinLaw", "kind", "(I)Lcom/example/tramway/tramway/idl/Token$Kind;"⟩ : MethodName) (head1 (Jvm.Cond.code (⟨"com/example/tramway/tramway/idl/TokenIsPinLaw", "kind", "(I)Lcom/example/tramway/tramway/idl/Token$Kind;"⟩ : MethodName) method_2_code 1 (some (.object "com/example/tramway/tramway/idl/Token$Kind")) :: ws) ({ frames := 0, cells := 0, slots := 0, locals := 0 } : Room)) (fun a U => a = #[(.int p1)] ∧ Z.Warmed39 U.vm ∧ U.heap = h0) (fun _ _ _ _ _ => True) (fun _ U o U' => ∃ v L, o = .returned v ∧ QK w h0 n0 v U'.heap L ∧ FrameEnd U o U' L ({ frames := 0, cells := 0, slots := 0, locals := 0 } : Room).cells ({ frames := 0, cells := 0, slots := 0, locals := 0 } : Room).slots) := by
  refine MetFree.of_bodySF (plainFor_of_name pnL) hisR ?_
  intro p e s m args below meth c s₁ Bd hml0 hP hK
  obtain ⟨rfl, hZ, hh⟩ := hP
  have hx := Bd.exec
  have hby := Bd.bytes
  have hml : c.maxLocals = 1 := hml0
  have hown : s.vm.findClass "com/example/tramway/tramway/idl/TokenIsPinLaw" = some m.cls := findClass_of_methodNamed Bd.named
  have hnm := (name_of_methodNamed Bd.named Bd.method).1
  have X0 : Stand p l e ({ frames := 0, cells := 0, slots := 0, locals := 0 } : Room) s m #[(.int p1)] below meth c s₁ [] 0 0 := Stand.of_body Bd
  have e0 : s₁.heap = h0 := by rw [← hh, Bd.state]; rfl
  have N0 := Fr.nil n0
  have go0 : ∀ t, Steps p.tables e below (s₁.setTop (mkF m 0 #[.val (.int p1)] [])) t → Steps p.tables e below (s₁.setTop (entryFrame m #[(.int p1)] 1)) t := fun t k => castTop (efK m p1) k
  obtain ⟨T101, X101, e101, st101⟩ := getS2 X0 hx hZ hown (host := "") (Or.inl (hw _ (List.mem_of_getElem? (i := 92) rfl))) Via.refl e0 S (g := (mkF m 79 #[.val (.int p1)] [])) rfl (hb hby dK_79)
  obtain ⟨fs, hr, hrun, hended, hW, hsame⟩ := X101.leave (v := some (.ref w)) (fun h => by rw [Bd.returns] at h; cases h)
  refine ⟨_, _, go0 _ ?_, hrun, hended, _, _, rfl, ?_, ⟨_, rfl⟩, hW, hsame.mono (by decide) (by decide)⟩
  · show Steps p.tables e below (s₁.setTop (mkF m 0 #[.val (.int p1)] [])) _
    refine XS.iloadN X0.here hx rfl (hb hby dK_0) rfl ?_
    show Steps p.tables e below (s₁.setTop (mkF m 1 #[.val (.int p1)] [(.int p1)])) _
    refine XS.ifYes X0.here hx rfl (pc0 := 1) (pc' := 8) rfl (hb hby dK_1) rfl ((if0 _ _).trans (feq (z0 : ¬ (p1 = (0 : Int32)))).2) (by decide) (by decide) ?_
    show Steps p.tables e below (s₁.setTop (mkF m 8 #[.val (.int p1)] [])) _
    refine XS.iloadN X0.here hx rfl (hb hby dK_8) rfl ?_
    show Steps p.tables e below (s₁.setTop (mkF m 9 #[.val (.int p1)] [(.int p1)])) _
    refine XS.iconst X0.here hx rfl (hb hby dK_9) ?_
    show Steps p.tables e below (s₁.setTop (mkF m 10 #[.val (.int p1)] [(.int (1 : Int32)), (.int p1)])) _
    refine XS.icmpYes X0.here hx rfl (pc0 := 10) (pc' := 17) rfl (hb hby dK_10) rfl (feq (z1 : ¬ (p1 = (1 : Int32)))).2 (by decide) (by decide) ?_
    show Steps p.tables e below (s₁.setTop (mkF m 17 #[.val (.int p1)] [])) _
    refine XS.iloadN X0.here hx rfl (hb hby dK_17) rfl ?_
    show Steps p.tables e below (s₁.setTop (mkF m 18 #[.val (.int p1)] [(.int p1)])) _
    refine XS.iconst X0.here hx rfl (hb hby dK_18) ?_
    show Steps p.tables e below (s₁.setTop (mkF m 19 #[.val (.int p1)] [(.int (2 : Int32)), (.int p1)])) _
    refine XS.icmpYes X0.here hx rfl (pc0 := 19) (pc' := 26) rfl (hb hby dK_19) rfl (feq (z2 : ¬ (p1 = (2 : Int32)))).2 (by decide) (by decide) ?_
    show Steps p.tables e below (s₁.setTop (mkF m 26 #[.val (.int p1)] [])) _
    refine XS.iloadN X0.here hx rfl (hb hby dK_26) rfl ?_
    show Steps p.tables e below (s₁.setTop (mkF m 27 #[.val (.int p1)] [(.int p1)])) _
    refine XS.iconst X0.here hx rfl (hb hby dK_27) ?_
    show Steps p.tables e below (s₁.setTop (mkF m 28 #[.val (.int p1)] [(.int (3 : Int32)), (.int p1)])) _
    refine XS.icmpYes X0.here hx rfl (pc0 := 28) (pc' := 35) rfl (hb hby dK_28) rfl (feq (z3 : ¬ (p1 = (3 : Int32)))).2 (by decide) (by decide) ?_
    show Steps p.tables e below (s₁.setTop (mkF m 35 #[.val (.int p1)] [])) _
    refine XS.iloadN X0.here hx rfl (hb hby dK_35) rfl ?_
    show Steps p.tables e below (s₁.setTop (mkF m 36 #[.val (.int p1)] [(.int p1)])) _
    refine XS.iconst X0.here hx rfl (hb hby dK_36) ?_
    show Steps p.tables e below (s₁.setTop (mkF m 37 #[.val (.int p1)] [(.int (4 : Int32)), (.int p1)])) _
    refine XS.icmpYes X0.here hx rfl (pc0 := 37) (pc' := 44) rfl (hb hby dK_37) rfl (feq (z4 : ¬ (p1 = (4 : Int32)))).2 (by decide) (by decide) ?_
    show Steps p.tables e below (s₁.setTop (mkF m 44 #[.val (.int p1)] [])) _
    refine XS.iloadN X0.here hx rfl (hb hby dK_44) rfl ?_
    show Steps p.tables e below (s₁.setTop (mkF m 45 #[.val (.int p1)] [(.int p1)])) _
    refine XS.iconst X0.here hx rfl (hb hby dK_45) ?_
    show Steps p.tables e below (s₁.setTop (mkF m 46 #[.val (.int p1)] [(.int (5 : Int32)), (.int p1)])) _
    refine XS.icmpYes X0.here hx rfl (pc0 := 46) (pc' := 53) rfl (hb hby dK_46) rfl (feq (z5 : ¬ (p1 = (5 : Int32)))).2 (by decide) (by decide) ?_
    show Steps p.tables e below (s₁.setTop (mkF m 53 #[.val (.int p1)] [])) _
    refine XS.iloadN X0.here hx rfl (hb hby dK_53) rfl ?_
    show Steps p.tables e below (s₁.setTop (mkF m 54 #[.val (.int p1)] [(.int p1)])) _
    refine XS.bipush X0.here hx rfl (hb hby dK_54) ?_
    show Steps p.tables e below (s₁.setTop (mkF m 56 #[.val (.int p1)] [(.int (6 : Int32)), (.int p1)])) _
    refine XS.icmpYes X0.here hx rfl (pc0 := 56) (pc' := 63) rfl (hb hby dK_56) rfl (feq (z6 : ¬ (p1 = (6 : Int32)))).2 (by decide) (by decide) ?_
    show Steps p.tables e below (s₁.setTop (mkF m 63 #[.val (.int p1)] [])) _
    refine XS.iloadN X0.here hx rfl (hb hby dK_63) rfl ?_
    show Steps p.tables e below (s₁.setTop (mkF m 64 #[.val (.int p1)] [(.int p1)])) _
    refine XS.bipush X0.here hx rfl (hb hby dK_64) ?_
    show Steps p.tables e below (s₁.setTop (mkF m 66 #[.val (.int p1)] [(.int (7 : Int32)), (.int p1)])) _
    refine XS.icmpYes X0.here hx rfl (pc0 := 66) (pc' := 73) rfl (hb hby dK_66) rfl (feq (z7 : ¬ (p1 = (7 : Int32)))).2 (by decide) (by decide) ?_
    show Steps p.tables e below (s₁.setTop (mkF m 73 #[.val (.int p1)] [])) _
    refine XS.iloadN X0.here hx rfl (hb hby dK_73) rfl ?_
    show Steps p.tables e below (s₁.setTop (mkF m 74 #[.val (.int p1)] [(.int p1)])) _
    refine XS.bipush X0.here hx rfl (hb hby dK_74) ?_
    show Steps p.tables e below (s₁.setTop (mkF m 76 #[.val (.int p1)] [(.int (8 : Int32)), (.int p1)])) _
    refine XS.icmpNo X0.here hx rfl (hb hby dK_76) rfl (teq (y : p1 = (8 : Int32))).2 ?_
    show Steps p.tables e below (s₁.setTop (mkF m 79 #[.val (.int p1)] [])) _
    refine st101 _ ?_
    show Steps p.tables e below (T101.setTop (mkF m 82 #[.val (.int p1)] [(.ref w)])) _
    jvm_step X101.here [X101.here.top, hx, (hb hby dK_82), X101.method', Bd.returns, Value.isRef, FieldType.isReference]
    first | (intro acts; rw [hr _ acts rfl rfl rfl]) | rw [hr _ _ rfl rfl rfl]
    exact Steps.refl _
  · show QK w h0 n0 _ T101.heap _
    rw [e101]
    exact ⟨rfl, N0, rfl⟩
set_option maxRecDepth 65536 in
set_option maxHeartbeats 40000000 in
theorem rmK_9 (l : Launch) (Z : State) (a0 : Array Value) (hw : ∀ d ∈ tables_1, d.before a0 Z = true) (ws : List Jvm.Cond) (p1 : Int32) (w : Addr) (h0 : Heap) (n0 : Nat) (S : Sta Z h0 "com/example/tramway/tramway/idl/Token$Kind" "ERROR" "Lcom/example/tramway/tramway/idl/Token$Kind;" (.ref w)) (z0 : ¬ (p1 = (0 : Int32))) (z1 : ¬ (p1 = (1 : Int32))) (z2 : ¬ (p1 = (2 : Int32))) (z3 : ¬ (p1 = (3 : Int32))) (z4 : ¬ (p1 = (4 : Int32))) (z5 : ¬ (p1 = (5 : Int32))) (z6 : ¬ (p1 = (6 : Int32))) (z7 : ¬ (p1 = (7 : Int32))) (z8 : ¬ (p1 = (8 : Int32))) (y : p1 = (9 : Int32)) :
    MetFree l (⟨"com/example/tramway/tramway/idl/TokenIsPinLaw", "kind", "(I)Lcom/example/tramway/tramway/idl/Token$Kind;"⟩ : MethodName) (head1 (Jvm.Cond.code (⟨"com/example/tramway/tramway/idl/TokenIsPinLaw", "kind", "(I)Lcom/example/tramway/tramway/idl/Token$Kind;"⟩ : MethodName) method_2_code 1 (some (.object "com/example/tramway/tramway/idl/Token$Kind")) :: ws) ({ frames := 0, cells := 0, slots := 0, locals := 0 } : Room)) (fun a U => a = #[(.int p1)] ∧ Z.Warmed39 U.vm ∧ U.heap = h0) (fun _ _ _ _ _ => True) (fun _ U o U' => ∃ v L, o = .returned v ∧ QK w h0 n0 v U'.heap L ∧ FrameEnd U o U' L ({ frames := 0, cells := 0, slots := 0, locals := 0 } : Room).cells ({ frames := 0, cells := 0, slots := 0, locals := 0 } : Room).slots) := by
  refine MetFree.of_bodySF (plainFor_of_name pnL) hisR ?_
  intro p e s m args below meth c s₁ Bd hml0 hP hK
  obtain ⟨rfl, hZ, hh⟩ := hP
  have hx := Bd.exec
  have hby := Bd.bytes
  have hml : c.maxLocals = 1 := hml0
  have hown : s.vm.findClass "com/example/tramway/tramway/idl/TokenIsPinLaw" = some m.cls := findClass_of_methodNamed Bd.named
  have hnm := (name_of_methodNamed Bd.named Bd.method).1
  have X0 : Stand p l e ({ frames := 0, cells := 0, slots := 0, locals := 0 } : Room) s m #[(.int p1)] below meth c s₁ [] 0 0 := Stand.of_body Bd
  have e0 : s₁.heap = h0 := by rw [← hh, Bd.state]; rfl
  have N0 := Fr.nil n0
  have go0 : ∀ t, Steps p.tables e below (s₁.setTop (mkF m 0 #[.val (.int p1)] [])) t → Steps p.tables e below (s₁.setTop (entryFrame m #[(.int p1)] 1)) t := fun t k => castTop (efK m p1) k
  obtain ⟨T101, X101, e101, st101⟩ := getS2 X0 hx hZ hown (host := "") (Or.inl (hw _ (List.mem_of_getElem? (i := 112) rfl))) Via.refl e0 S (g := (mkF m 89 #[.val (.int p1)] [])) rfl (hb hby dK_89)
  obtain ⟨fs, hr, hrun, hended, hW, hsame⟩ := X101.leave (v := some (.ref w)) (fun h => by rw [Bd.returns] at h; cases h)
  refine ⟨_, _, go0 _ ?_, hrun, hended, _, _, rfl, ?_, ⟨_, rfl⟩, hW, hsame.mono (by decide) (by decide)⟩
  · show Steps p.tables e below (s₁.setTop (mkF m 0 #[.val (.int p1)] [])) _
    refine XS.iloadN X0.here hx rfl (hb hby dK_0) rfl ?_
    show Steps p.tables e below (s₁.setTop (mkF m 1 #[.val (.int p1)] [(.int p1)])) _
    refine XS.ifYes X0.here hx rfl (pc0 := 1) (pc' := 8) rfl (hb hby dK_1) rfl ((if0 _ _).trans (feq (z0 : ¬ (p1 = (0 : Int32)))).2) (by decide) (by decide) ?_
    show Steps p.tables e below (s₁.setTop (mkF m 8 #[.val (.int p1)] [])) _
    refine XS.iloadN X0.here hx rfl (hb hby dK_8) rfl ?_
    show Steps p.tables e below (s₁.setTop (mkF m 9 #[.val (.int p1)] [(.int p1)])) _
    refine XS.iconst X0.here hx rfl (hb hby dK_9) ?_
    show Steps p.tables e below (s₁.setTop (mkF m 10 #[.val (.int p1)] [(.int (1 : Int32)), (.int p1)])) _
    refine XS.icmpYes X0.here hx rfl (pc0 := 10) (pc' := 17) rfl (hb hby dK_10) rfl (feq (z1 : ¬ (p1 = (1 : Int32)))).2 (by decide) (by decide) ?_
    show Steps p.tables e below (s₁.setTop (mkF m 17 #[.val (.int p1)] [])) _
    refine XS.iloadN X0.here hx rfl (hb hby dK_17) rfl ?_
    show Steps p.tables e below (s₁.setTop (mkF m 18 #[.val (.int p1)] [(.int p1)])) _
    refine XS.iconst X0.here hx rfl (hb hby dK_18) ?_
    show Steps p.tables e below (s₁.setTop (mkF m 19 #[.val (.int p1)] [(.int (2 : Int32)), (.int p1)])) _
    refine XS.icmpYes X0.here hx rfl (pc0 := 19) (pc' := 26) rfl (hb hby dK_19) rfl (feq (z2 : ¬ (p1 = (2 : Int32)))).2 (by decide) (by decide) ?_
    show Steps p.tables e below (s₁.setTop (mkF m 26 #[.val (.int p1)] [])) _
    refine XS.iloadN X0.here hx rfl (hb hby dK_26) rfl ?_
    show Steps p.tables e below (s₁.setTop (mkF m 27 #[.val (.int p1)] [(.int p1)])) _
    refine XS.iconst X0.here hx rfl (hb hby dK_27) ?_
    show Steps p.tables e below (s₁.setTop (mkF m 28 #[.val (.int p1)] [(.int (3 : Int32)), (.int p1)])) _
    refine XS.icmpYes X0.here hx rfl (pc0 := 28) (pc' := 35) rfl (hb hby dK_28) rfl (feq (z3 : ¬ (p1 = (3 : Int32)))).2 (by decide) (by decide) ?_
    show Steps p.tables e below (s₁.setTop (mkF m 35 #[.val (.int p1)] [])) _
    refine XS.iloadN X0.here hx rfl (hb hby dK_35) rfl ?_
    show Steps p.tables e below (s₁.setTop (mkF m 36 #[.val (.int p1)] [(.int p1)])) _
    refine XS.iconst X0.here hx rfl (hb hby dK_36) ?_
    show Steps p.tables e below (s₁.setTop (mkF m 37 #[.val (.int p1)] [(.int (4 : Int32)), (.int p1)])) _
    refine XS.icmpYes X0.here hx rfl (pc0 := 37) (pc' := 44) rfl (hb hby dK_37) rfl (feq (z4 : ¬ (p1 = (4 : Int32)))).2 (by decide) (by decide) ?_
    show Steps p.tables e below (s₁.setTop (mkF m 44 #[.val (.int p1)] [])) _
    refine XS.iloadN X0.here hx rfl (hb hby dK_44) rfl ?_
    show Steps p.tables e below (s₁.setTop (mkF m 45 #[.val (.int p1)] [(.int p1)])) _
    refine XS.iconst X0.here hx rfl (hb hby dK_45) ?_
    show Steps p.tables e below (s₁.setTop (mkF m 46 #[.val (.int p1)] [(.int (5 : Int32)), (.int p1)])) _
    refine XS.icmpYes X0.here hx rfl (pc0 := 46) (pc' := 53) rfl (hb hby dK_46) rfl (feq (z5 : ¬ (p1 = (5 : Int32)))).2 (by decide) (by decide) ?_
    show Steps p.tables e below (s₁.setTop (mkF m 53 #[.val (.int p1)] [])) _
    refine XS.iloadN X0.here hx rfl (hb hby dK_53) rfl ?_
    show Steps p.tables e below (s₁.setTop (mkF m 54 #[.val (.int p1)] [(.int p1)])) _
    refine XS.bipush X0.here hx rfl (hb hby dK_54) ?_
    show Steps p.tables e below (s₁.setTop (mkF m 56 #[.val (.int p1)] [(.int (6 : Int32)), (.int p1)])) _
    refine XS.icmpYes X0.here hx rfl (pc0 := 56) (pc' := 63) rfl (hb hby dK_56) rfl (feq (z6 : ¬ (p1 = (6 : Int32)))).2 (by decide) (by decide) ?_
    show Steps p.tables e below (s₁.setTop (mkF m 63 #[.val (.int p1)] [])) _
    refine XS.iloadN X0.here hx rfl (hb hby dK_63) rfl ?_
    show Steps p.tables e below (s₁.setTop (mkF m 64 #[.val (.int p1)] [(.int p1)])) _
    refine XS.bipush X0.here hx rfl (hb hby dK_64) ?_
    show Steps p.tables e below (s₁.setTop (mkF m 66 #[.val (.int p1)] [(.int (7 : Int32)), (.int p1)])) _
    refine XS.icmpYes X0.here hx rfl (pc0 := 66) (pc' := 73) rfl (hb hby dK_66) rfl (feq (z7 : ¬ (p1 = (7 : Int32)))).2 (by decide) (by decide) ?_
    show Steps p.tables e below (s₁.setTop (mkF m 73 #[.val (.int p1)] [])) _
    refine XS.iloadN X0.here hx rfl (hb hby dK_73) rfl ?_
    show Steps p.tables e below (s₁.setTop (mkF m 74 #[.val (.int p1)] [(.int p1)])) _
    refine XS.bipush X0.here hx rfl (hb hby dK_74) ?_
    show Steps p.tables e below (s₁.setTop (mkF m 76 #[.val (.int p1)] [(.int (8 : Int32)), (.int p1)])) _
    refine XS.icmpYes X0.here hx rfl (pc0 := 76) (pc' := 83) rfl (hb hby dK_76) rfl (feq (z8 : ¬ (p1 = (8 : Int32)))).2 (by decide) (by decide) ?_
    show Steps p.tables e below (s₁.setTop (mkF m 83 #[.val (.int p1)] [])) _
    refine XS.iloadN X0.here hx rfl (hb hby dK_83) rfl ?_
    show Steps p.tables e below (s₁.setTop (mkF m 84 #[.val (.int p1)] [(.int p1)])) _
    refine XS.bipush X0.here hx rfl (hb hby dK_84) ?_
    show Steps p.tables e below (s₁.setTop (mkF m 86 #[.val (.int p1)] [(.int (9 : Int32)), (.int p1)])) _
    refine XS.icmpNo X0.here hx rfl (hb hby dK_86) rfl (teq (y : p1 = (9 : Int32))).2 ?_
    show Steps p.tables e below (s₁.setTop (mkF m 89 #[.val (.int p1)] [])) _
    refine st101 _ ?_
    show Steps p.tables e below (T101.setTop (mkF m 92 #[.val (.int p1)] [(.ref w)])) _
    jvm_step X101.here [X101.here.top, hx, (hb hby dK_92), X101.method', Bd.returns, Value.isRef, FieldType.isReference]
    first | (intro acts; rw [hr _ acts rfl rfl rfl]) | rw [hr _ _ rfl rfl rfl]
    exact Steps.refl _
  · show QK w h0 n0 _ T101.heap _
    rw [e101]
    exact ⟨rfl, N0, rfl⟩
set_option maxRecDepth 65536 in
set_option maxHeartbeats 40000000 in
theorem rmK_10 (l : Launch) (Z : State) (a0 : Array Value) (hw : ∀ d ∈ tables_1, d.before a0 Z = true) (ws : List Jvm.Cond) (p1 : Int32) (w : Addr) (h0 : Heap) (n0 : Nat) (S : Sta Z h0 "com/example/tramway/tramway/idl/Token$Kind" "FILE_START" "Lcom/example/tramway/tramway/idl/Token$Kind;" (.ref w)) (z0 : ¬ (p1 = (0 : Int32))) (z1 : ¬ (p1 = (1 : Int32))) (z2 : ¬ (p1 = (2 : Int32))) (z3 : ¬ (p1 = (3 : Int32))) (z4 : ¬ (p1 = (4 : Int32))) (z5 : ¬ (p1 = (5 : Int32))) (z6 : ¬ (p1 = (6 : Int32))) (z7 : ¬ (p1 = (7 : Int32))) (z8 : ¬ (p1 = (8 : Int32))) (z9 : ¬ (p1 = (9 : Int32))) (y : p1 = (10 : Int32)) :
    MetFree l (⟨"com/example/tramway/tramway/idl/TokenIsPinLaw", "kind", "(I)Lcom/example/tramway/tramway/idl/Token$Kind;"⟩ : MethodName) (head1 (Jvm.Cond.code (⟨"com/example/tramway/tramway/idl/TokenIsPinLaw", "kind", "(I)Lcom/example/tramway/tramway/idl/Token$Kind;"⟩ : MethodName) method_2_code 1 (some (.object "com/example/tramway/tramway/idl/Token$Kind")) :: ws) ({ frames := 0, cells := 0, slots := 0, locals := 0 } : Room)) (fun a U => a = #[(.int p1)] ∧ Z.Warmed39 U.vm ∧ U.heap = h0) (fun _ _ _ _ _ => True) (fun _ U o U' => ∃ v L, o = .returned v ∧ QK w h0 n0 v U'.heap L ∧ FrameEnd U o U' L ({ frames := 0, cells := 0, slots := 0, locals := 0 } : Room).cells ({ frames := 0, cells := 0, slots := 0, locals := 0 } : Room).slots) := by
  refine MetFree.of_bodySF (plainFor_of_name pnL) hisR ?_
  intro p e s m args below meth c s₁ Bd hml0 hP hK
  obtain ⟨rfl, hZ, hh⟩ := hP
  have hx := Bd.exec
  have hby := Bd.bytes
  have hml : c.maxLocals = 1 := hml0
  have hown : s.vm.findClass "com/example/tramway/tramway/idl/TokenIsPinLaw" = some m.cls := findClass_of_methodNamed Bd.named
  have hnm := (name_of_methodNamed Bd.named Bd.method).1
  have X0 : Stand p l e ({ frames := 0, cells := 0, slots := 0, locals := 0 } : Room) s m #[(.int p1)] below meth c s₁ [] 0 0 := Stand.of_body Bd
  have e0 : s₁.heap = h0 := by rw [← hh, Bd.state]; rfl
  have N0 := Fr.nil n0
  have go0 : ∀ t, Steps p.tables e below (s₁.setTop (mkF m 0 #[.val (.int p1)] [])) t → Steps p.tables e below (s₁.setTop (entryFrame m #[(.int p1)] 1)) t := fun t k => castTop (efK m p1) k
  obtain ⟨T101, X101, e101, st101⟩ := getS2 X0 hx hZ hown (host := "") (Or.inl (hw _ (List.mem_of_getElem? (i := 106) rfl))) Via.refl e0 S (g := (mkF m 99 #[.val (.int p1)] [])) rfl (hb hby dK_99)
  obtain ⟨fs, hr, hrun, hended, hW, hsame⟩ := X101.leave (v := some (.ref w)) (fun h => by rw [Bd.returns] at h; cases h)
  refine ⟨_, _, go0 _ ?_, hrun, hended, _, _, rfl, ?_, ⟨_, rfl⟩, hW, hsame.mono (by decide) (by decide)⟩
  · show Steps p.tables e below (s₁.setTop (mkF m 0 #[.val (.int p1)] [])) _
    refine XS.iloadN X0.here hx rfl (hb hby dK_0) rfl ?_
    show Steps p.tables e below (s₁.setTop (mkF m 1 #[.val (.int p1)] [(.int p1)])) _
    refine XS.ifYes X0.here hx rfl (pc0 := 1) (pc' := 8) rfl (hb hby dK_1) rfl ((if0 _ _).trans (feq (z0 : ¬ (p1 = (0 : Int32)))).2) (by decide) (by decide) ?_
    show Steps p.tables e below (s₁.setTop (mkF m 8 #[.val (.int p1)] [])) _
    refine XS.iloadN X0.here hx rfl (hb hby dK_8) rfl ?_
    show Steps p.tables e below (s₁.setTop (mkF m 9 #[.val (.int p1)] [(.int p1)])) _
    refine XS.iconst X0.here hx rfl (hb hby dK_9) ?_
    show Steps p.tables e below (s₁.setTop (mkF m 10 #[.val (.int p1)] [(.int (1 : Int32)), (.int p1)])) _
    refine XS.icmpYes X0.here hx rfl (pc0 := 10) (pc' := 17) rfl (hb hby dK_10) rfl (feq (z1 : ¬ (p1 = (1 : Int32)))).2 (by decide) (by decide) ?_
    show Steps p.tables e below (s₁.setTop (mkF m 17 #[.val (.int p1)] [])) _
    refine XS.iloadN X0.here hx rfl (hb hby dK_17) rfl ?_
    show Steps p.tables e below (s₁.setTop (mkF m 18 #[.val (.int p1)] [(.int p1)])) _
    refine XS.iconst X0.here hx rfl (hb hby dK_18) ?_
    show Steps p.tables e below (s₁.setTop (mkF m 19 #[.val (.int p1)] [(.int (2 : Int32)), (.int p1)])) _
    refine XS.icmpYes X0.here hx rfl (pc0 := 19) (pc' := 26) rfl (hb hby dK_19) rfl (feq (z2 : ¬ (p1 = (2 : Int32)))).2 (by decide) (by decide) ?_
    show Steps p.tables e below (s₁.setTop (mkF m 26 #[.val (.int p1)] [])) _
    refine XS.iloadN X0.here hx rfl (hb hby dK_26) rfl ?_
    show Steps p.tables e below (s₁.setTop (mkF m 27 #[.val (.int p1)] [(.int p1)])) _
    refine XS.iconst X0.here hx rfl (hb hby dK_27) ?_
    show Steps p.tables e below (s₁.setTop (mkF m 28 #[.val (.int p1)] [(.int (3 : Int32)), (.int p1)])) _
    refine XS.icmpYes X0.here hx rfl (pc0 := 28) (pc' := 35) rfl (hb hby dK_28) rfl (feq (z3 : ¬ (p1 = (3 : Int32)))).2 (by decide) (by decide) ?_
    show Steps p.tables e below (s₁.setTop (mkF m 35 #[.val (.int p1)] [])) _
    refine XS.iloadN X0.here hx rfl (hb hby dK_35) rfl ?_
    show Steps p.tables e below (s₁.setTop (mkF m 36 #[.val (.int p1)] [(.int p1)])) _
    refine XS.iconst X0.here hx rfl (hb hby dK_36) ?_
    show Steps p.tables e below (s₁.setTop (mkF m 37 #[.val (.int p1)] [(.int (4 : Int32)), (.int p1)])) _
    refine XS.icmpYes X0.here hx rfl (pc0 := 37) (pc' := 44) rfl (hb hby dK_37) rfl (feq (z4 : ¬ (p1 = (4 : Int32)))).2 (by decide) (by decide) ?_
    show Steps p.tables e below (s₁.setTop (mkF m 44 #[.val (.int p1)] [])) _
    refine XS.iloadN X0.here hx rfl (hb hby dK_44) rfl ?_
    show Steps p.tables e below (s₁.setTop (mkF m 45 #[.val (.int p1)] [(.int p1)])) _
    refine XS.iconst X0.here hx rfl (hb hby dK_45) ?_
    show Steps p.tables e below (s₁.setTop (mkF m 46 #[.val (.int p1)] [(.int (5 : Int32)), (.int p1)])) _
    refine XS.icmpYes X0.here hx rfl (pc0 := 46) (pc' := 53) rfl (hb hby dK_46) rfl (feq (z5 : ¬ (p1 = (5 : Int32)))).2 (by decide) (by decide) ?_
    show Steps p.tables e below (s₁.setTop (mkF m 53 #[.val (.int p1)] [])) _
    refine XS.iloadN X0.here hx rfl (hb hby dK_53) rfl ?_
    show Steps p.tables e below (s₁.setTop (mkF m 54 #[.val (.int p1)] [(.int p1)])) _
    refine XS.bipush X0.here hx rfl (hb hby dK_54) ?_
    show Steps p.tables e below (s₁.setTop (mkF m 56 #[.val (.int p1)] [(.int (6 : Int32)), (.int p1)])) _
    refine XS.icmpYes X0.here hx rfl (pc0 := 56) (pc' := 63) rfl (hb hby dK_56) rfl (feq (z6 : ¬ (p1 = (6 : Int32)))).2 (by decide) (by decide) ?_
    show Steps p.tables e below (s₁.setTop (mkF m 63 #[.val (.int p1)] [])) _
    refine XS.iloadN X0.here hx rfl (hb hby dK_63) rfl ?_
    show Steps p.tables e below (s₁.setTop (mkF m 64 #[.val (.int p1)] [(.int p1)])) _
    refine XS.bipush X0.here hx rfl (hb hby dK_64) ?_
    show Steps p.tables e below (s₁.setTop (mkF m 66 #[.val (.int p1)] [(.int (7 : Int32)), (.int p1)])) _
    refine XS.icmpYes X0.here hx rfl (pc0 := 66) (pc' := 73) rfl (hb hby dK_66) rfl (feq (z7 : ¬ (p1 = (7 : Int32)))).2 (by decide) (by decide) ?_
    show Steps p.tables e below (s₁.setTop (mkF m 73 #[.val (.int p1)] [])) _
    refine XS.iloadN X0.here hx rfl (hb hby dK_73) rfl ?_
    show Steps p.tables e below (s₁.setTop (mkF m 74 #[.val (.int p1)] [(.int p1)])) _
    refine XS.bipush X0.here hx rfl (hb hby dK_74) ?_
    show Steps p.tables e below (s₁.setTop (mkF m 76 #[.val (.int p1)] [(.int (8 : Int32)), (.int p1)])) _
    refine XS.icmpYes X0.here hx rfl (pc0 := 76) (pc' := 83) rfl (hb hby dK_76) rfl (feq (z8 : ¬ (p1 = (8 : Int32)))).2 (by decide) (by decide) ?_
    show Steps p.tables e below (s₁.setTop (mkF m 83 #[.val (.int p1)] [])) _
    refine XS.iloadN X0.here hx rfl (hb hby dK_83) rfl ?_
    show Steps p.tables e below (s₁.setTop (mkF m 84 #[.val (.int p1)] [(.int p1)])) _
    refine XS.bipush X0.here hx rfl (hb hby dK_84) ?_
    show Steps p.tables e below (s₁.setTop (mkF m 86 #[.val (.int p1)] [(.int (9 : Int32)), (.int p1)])) _
    refine XS.icmpYes X0.here hx rfl (pc0 := 86) (pc' := 93) rfl (hb hby dK_86) rfl (feq (z9 : ¬ (p1 = (9 : Int32)))).2 (by decide) (by decide) ?_
    show Steps p.tables e below (s₁.setTop (mkF m 93 #[.val (.int p1)] [])) _
    refine XS.iloadN X0.here hx rfl (hb hby dK_93) rfl ?_
    show Steps p.tables e below (s₁.setTop (mkF m 94 #[.val (.int p1)] [(.int p1)])) _
    refine XS.bipush X0.here hx rfl (hb hby dK_94) ?_
    show Steps p.tables e below (s₁.setTop (mkF m 96 #[.val (.int p1)] [(.int (10 : Int32)), (.int p1)])) _
    refine XS.icmpNo X0.here hx rfl (hb hby dK_96) rfl (teq (y : p1 = (10 : Int32))).2 ?_
    show Steps p.tables e below (s₁.setTop (mkF m 99 #[.val (.int p1)] [])) _
    refine st101 _ ?_
    show Steps p.tables e below (T101.setTop (mkF m 102 #[.val (.int p1)] [(.ref w)])) _
    jvm_step X101.here [X101.here.top, hx, (hb hby dK_102), X101.method', Bd.returns, Value.isRef, FieldType.isReference]
    first | (intro acts; rw [hr _ acts rfl rfl rfl]) | rw [hr _ _ rfl rfl rfl]
    exact Steps.refl _
  · show QK w h0 n0 _ T101.heap _
    rw [e101]
    exact ⟨rfl, N0, rfl⟩
set_option maxRecDepth 65536 in
set_option maxHeartbeats 40000000 in
theorem rmK_11 (l : Launch) (Z : State) (a0 : Array Value) (hw : ∀ d ∈ tables_1, d.before a0 Z = true) (ws : List Jvm.Cond) (p1 : Int32) (w : Addr) (h0 : Heap) (n0 : Nat) (S : Sta Z h0 "com/example/tramway/tramway/idl/Token$Kind" "FILE_END" "Lcom/example/tramway/tramway/idl/Token$Kind;" (.ref w)) (z0 : ¬ (p1 = (0 : Int32))) (z1 : ¬ (p1 = (1 : Int32))) (z2 : ¬ (p1 = (2 : Int32))) (z3 : ¬ (p1 = (3 : Int32))) (z4 : ¬ (p1 = (4 : Int32))) (z5 : ¬ (p1 = (5 : Int32))) (z6 : ¬ (p1 = (6 : Int32))) (z7 : ¬ (p1 = (7 : Int32))) (z8 : ¬ (p1 = (8 : Int32))) (z9 : ¬ (p1 = (9 : Int32))) (z10 : ¬ (p1 = (10 : Int32))) (y : p1 = (11 : Int32)) :
    MetFree l (⟨"com/example/tramway/tramway/idl/TokenIsPinLaw", "kind", "(I)Lcom/example/tramway/tramway/idl/Token$Kind;"⟩ : MethodName) (head1 (Jvm.Cond.code (⟨"com/example/tramway/tramway/idl/TokenIsPinLaw", "kind", "(I)Lcom/example/tramway/tramway/idl/Token$Kind;"⟩ : MethodName) method_2_code 1 (some (.object "com/example/tramway/tramway/idl/Token$Kind")) :: ws) ({ frames := 0, cells := 0, slots := 0, locals := 0 } : Room)) (fun a U => a = #[(.int p1)] ∧ Z.Warmed39 U.vm ∧ U.heap = h0) (fun _ _ _ _ _ => True) (fun _ U o U' => ∃ v L, o = .returned v ∧ QK w h0 n0 v U'.heap L ∧ FrameEnd U o U' L ({ frames := 0, cells := 0, slots := 0, locals := 0 } : Room).cells ({ frames := 0, cells := 0, slots := 0, locals := 0 } : Room).slots) := by
  refine MetFree.of_bodySF (plainFor_of_name pnL) hisR ?_
  intro p e s m args below meth c s₁ Bd hml0 hP hK
  obtain ⟨rfl, hZ, hh⟩ := hP
  have hx := Bd.exec
  have hby := Bd.bytes
  have hml : c.maxLocals = 1 := hml0
  have hown : s.vm.findClass "com/example/tramway/tramway/idl/TokenIsPinLaw" = some m.cls := findClass_of_methodNamed Bd.named
  have hnm := (name_of_methodNamed Bd.named Bd.method).1
  have X0 : Stand p l e ({ frames := 0, cells := 0, slots := 0, locals := 0 } : Room) s m #[(.int p1)] below meth c s₁ [] 0 0 := Stand.of_body Bd
  have e0 : s₁.heap = h0 := by rw [← hh, Bd.state]; rfl
  have N0 := Fr.nil n0
  have go0 : ∀ t, Steps p.tables e below (s₁.setTop (mkF m 0 #[.val (.int p1)] [])) t → Steps p.tables e below (s₁.setTop (entryFrame m #[(.int p1)] 1)) t := fun t k => castTop (efK m p1) k
  obtain ⟨T101, X101, e101, st101⟩ := getS2 X0 hx hZ hown (host := "") (Or.inl (hw _ (List.mem_of_getElem? (i := 118) rfl))) Via.refl e0 S (g := (mkF m 109 #[.val (.int p1)] [])) rfl (hb hby dK_109)
  obtain ⟨fs, hr, hrun, hended, hW, hsame⟩ := X101.leave (v := some (.ref w)) (fun h => by rw [Bd.returns] at h; cases h)
  refine ⟨_, _, go0 _ ?_, hrun, hended, _, _, rfl, ?_, ⟨_, rfl⟩, hW, hsame.mono (by decide) (by decide)⟩
  · show Steps p.tables e below (s₁.setTop (mkF m 0 #[.val (.int p1)] [])) _
    refine XS.iloadN X0.here hx rfl (hb hby dK_0) rfl ?_
    show Steps p.tables e below (s₁.setTop (mkF m 1 #[.val (.int p1)] [(.int p1)])) _
    refine XS.ifYes X0.here hx rfl (pc0 := 1) (pc' := 8) rfl (hb hby dK_1) rfl ((if0 _ _).trans (feq (z0 : ¬ (p1 = (0 : Int32)))).2) (by decide) (by decide) ?_
    show Steps p.tables e below (s₁.setTop (mkF m 8 #[.val (.int p1)] [])) _
    refine XS.iloadN X0.here hx rfl (hb hby dK_8) rfl ?_
    show Steps p.tables e below (s₁.setTop (mkF m 9 #[.val (.int p1)] [(.int p1)])) _
    refine XS.iconst X0.here hx rfl (hb hby dK_9) ?_
    show Steps p.tables e below (s₁.setTop (mkF m 10 #[.val (.int p1)] [(.int (1 : Int32)), (.int p1)])) _
    refine XS.icmpYes X0.here hx rfl (pc0 := 10) (pc' := 17) rfl (hb hby dK_10) rfl (feq (z1 : ¬ (p1 = (1 : Int32)))).2 (by decide) (by decide) ?_
    show Steps p.tables e below (s₁.setTop (mkF m 17 #[.val (.int p1)] [])) _
    refine XS.iloadN X0.here hx rfl (hb hby dK_17) rfl ?_
    show Steps p.tables e below (s₁.setTop (mkF m 18 #[.val (.int p1)] [(.int p1)])) _
    refine XS.iconst X0.here hx rfl (hb hby dK_18) ?_
    show Steps p.tables e below (s₁.setTop (mkF m 19 #[.val (.int p1)] [(.int (2 : Int32)), (.int p1)])) _
    refine XS.icmpYes X0.here hx rfl (pc0 := 19) (pc' := 26) rfl (hb hby dK_19) rfl (feq (z2 : ¬ (p1 = (2 : Int32)))).2 (by decide) (by decide) ?_
    show Steps p.tables e below (s₁.setTop (mkF m 26 #[.val (.int p1)] [])) _
    refine XS.iloadN X0.here hx rfl (hb hby dK_26) rfl ?_
    show Steps p.tables e below (s₁.setTop (mkF m 27 #[.val (.int p1)] [(.int p1)])) _
    refine XS.iconst X0.here hx rfl (hb hby dK_27) ?_
    show Steps p.tables e below (s₁.setTop (mkF m 28 #[.val (.int p1)] [(.int (3 : Int32)), (.int p1)])) _
    refine XS.icmpYes X0.here hx rfl (pc0 := 28) (pc' := 35) rfl (hb hby dK_28) rfl (feq (z3 : ¬ (p1 = (3 : Int32)))).2 (by decide) (by decide) ?_
    show Steps p.tables e below (s₁.setTop (mkF m 35 #[.val (.int p1)] [])) _
    refine XS.iloadN X0.here hx rfl (hb hby dK_35) rfl ?_
    show Steps p.tables e below (s₁.setTop (mkF m 36 #[.val (.int p1)] [(.int p1)])) _
    refine XS.iconst X0.here hx rfl (hb hby dK_36) ?_
    show Steps p.tables e below (s₁.setTop (mkF m 37 #[.val (.int p1)] [(.int (4 : Int32)), (.int p1)])) _
    refine XS.icmpYes X0.here hx rfl (pc0 := 37) (pc' := 44) rfl (hb hby dK_37) rfl (feq (z4 : ¬ (p1 = (4 : Int32)))).2 (by decide) (by decide) ?_
    show Steps p.tables e below (s₁.setTop (mkF m 44 #[.val (.int p1)] [])) _
    refine XS.iloadN X0.here hx rfl (hb hby dK_44) rfl ?_
    show Steps p.tables e below (s₁.setTop (mkF m 45 #[.val (.int p1)] [(.int p1)])) _
    refine XS.iconst X0.here hx rfl (hb hby dK_45) ?_
    show Steps p.tables e below (s₁.setTop (mkF m 46 #[.val (.int p1)] [(.int (5 : Int32)), (.int p1)])) _
    refine XS.icmpYes X0.here hx rfl (pc0 := 46) (pc' := 53) rfl (hb hby dK_46) rfl (feq (z5 : ¬ (p1 = (5 : Int32)))).2 (by decide) (by decide) ?_
    show Steps p.tables e below (s₁.setTop (mkF m 53 #[.val (.int p1)] [])) _
    refine XS.iloadN X0.here hx rfl (hb hby dK_53) rfl ?_
    show Steps p.tables e below (s₁.setTop (mkF m 54 #[.val (.int p1)] [(.int p1)])) _
    refine XS.bipush X0.here hx rfl (hb hby dK_54) ?_
    show Steps p.tables e below (s₁.setTop (mkF m 56 #[.val (.int p1)] [(.int (6 : Int32)), (.int p1)])) _
    refine XS.icmpYes X0.here hx rfl (pc0 := 56) (pc' := 63) rfl (hb hby dK_56) rfl (feq (z6 : ¬ (p1 = (6 : Int32)))).2 (by decide) (by decide) ?_
    show Steps p.tables e below (s₁.setTop (mkF m 63 #[.val (.int p1)] [])) _
    refine XS.iloadN X0.here hx rfl (hb hby dK_63) rfl ?_
    show Steps p.tables e below (s₁.setTop (mkF m 64 #[.val (.int p1)] [(.int p1)])) _
    refine XS.bipush X0.here hx rfl (hb hby dK_64) ?_
    show Steps p.tables e below (s₁.setTop (mkF m 66 #[.val (.int p1)] [(.int (7 : Int32)), (.int p1)])) _
    refine XS.icmpYes X0.here hx rfl (pc0 := 66) (pc' := 73) rfl (hb hby dK_66) rfl (feq (z7 : ¬ (p1 = (7 : Int32)))).2 (by decide) (by decide) ?_
    show Steps p.tables e below (s₁.setTop (mkF m 73 #[.val (.int p1)] [])) _
    refine XS.iloadN X0.here hx rfl (hb hby dK_73) rfl ?_
    show Steps p.tables e below (s₁.setTop (mkF m 74 #[.val (.int p1)] [(.int p1)])) _
    refine XS.bipush X0.here hx rfl (hb hby dK_74) ?_
    show Steps p.tables e below (s₁.setTop (mkF m 76 #[.val (.int p1)] [(.int (8 : Int32)), (.int p1)])) _
    refine XS.icmpYes X0.here hx rfl (pc0 := 76) (pc' := 83) rfl (hb hby dK_76) rfl (feq (z8 : ¬ (p1 = (8 : Int32)))).2 (by decide) (by decide) ?_
    show Steps p.tables e below (s₁.setTop (mkF m 83 #[.val (.int p1)] [])) _
    refine XS.iloadN X0.here hx rfl (hb hby dK_83) rfl ?_
    show Steps p.tables e below (s₁.setTop (mkF m 84 #[.val (.int p1)] [(.int p1)])) _
    refine XS.bipush X0.here hx rfl (hb hby dK_84) ?_
    show Steps p.tables e below (s₁.setTop (mkF m 86 #[.val (.int p1)] [(.int (9 : Int32)), (.int p1)])) _
    refine XS.icmpYes X0.here hx rfl (pc0 := 86) (pc' := 93) rfl (hb hby dK_86) rfl (feq (z9 : ¬ (p1 = (9 : Int32)))).2 (by decide) (by decide) ?_
    show Steps p.tables e below (s₁.setTop (mkF m 93 #[.val (.int p1)] [])) _
    refine XS.iloadN X0.here hx rfl (hb hby dK_93) rfl ?_
    show Steps p.tables e below (s₁.setTop (mkF m 94 #[.val (.int p1)] [(.int p1)])) _
    refine XS.bipush X0.here hx rfl (hb hby dK_94) ?_
    show Steps p.tables e below (s₁.setTop (mkF m 96 #[.val (.int p1)] [(.int (10 : Int32)), (.int p1)])) _
    refine XS.icmpYes X0.here hx rfl (pc0 := 96) (pc' := 103) rfl (hb hby dK_96) rfl (feq (z10 : ¬ (p1 = (10 : Int32)))).2 (by decide) (by decide) ?_
    show Steps p.tables e below (s₁.setTop (mkF m 103 #[.val (.int p1)] [])) _
    refine XS.iloadN X0.here hx rfl (hb hby dK_103) rfl ?_
    show Steps p.tables e below (s₁.setTop (mkF m 104 #[.val (.int p1)] [(.int p1)])) _
    refine XS.bipush X0.here hx rfl (hb hby dK_104) ?_
    show Steps p.tables e below (s₁.setTop (mkF m 106 #[.val (.int p1)] [(.int (11 : Int32)), (.int p1)])) _
    refine XS.icmpNo X0.here hx rfl (hb hby dK_106) rfl (teq (y : p1 = (11 : Int32))).2 ?_
    show Steps p.tables e below (s₁.setTop (mkF m 109 #[.val (.int p1)] [])) _
    refine st101 _ ?_
    show Steps p.tables e below (T101.setTop (mkF m 112 #[.val (.int p1)] [(.ref w)])) _
    jvm_step X101.here [X101.here.top, hx, (hb hby dK_112), X101.method', Bd.returns, Value.isRef, FieldType.isReference]
    first | (intro acts; rw [hr _ acts rfl rfl rfl]) | rw [hr _ _ rfl rfl rfl]
    exact Steps.refl _
  · show QK w h0 n0 _ T101.heap _
    rw [e101]
    exact ⟨rfl, N0, rfl⟩
set_option maxRecDepth 65536 in
set_option maxHeartbeats 40000000 in
theorem rmK_12 (l : Launch) (Z : State) (a0 : Array Value) (hw : ∀ d ∈ tables_1, d.before a0 Z = true) (ws : List Jvm.Cond) (p1 : Int32) (w : Addr) (h0 : Heap) (n0 : Nat) (S : Sta Z h0 "com/example/tramway/tramway/idl/Token$Kind" "PREFIX" "Lcom/example/tramway/tramway/idl/Token$Kind;" (.ref w)) (z0 : ¬ (p1 = (0 : Int32))) (z1 : ¬ (p1 = (1 : Int32))) (z2 : ¬ (p1 = (2 : Int32))) (z3 : ¬ (p1 = (3 : Int32))) (z4 : ¬ (p1 = (4 : Int32))) (z5 : ¬ (p1 = (5 : Int32))) (z6 : ¬ (p1 = (6 : Int32))) (z7 : ¬ (p1 = (7 : Int32))) (z8 : ¬ (p1 = (8 : Int32))) (z9 : ¬ (p1 = (9 : Int32))) (z10 : ¬ (p1 = (10 : Int32))) (z11 : ¬ (p1 = (11 : Int32))) (y : p1 = (12 : Int32)) :
    MetFree l (⟨"com/example/tramway/tramway/idl/TokenIsPinLaw", "kind", "(I)Lcom/example/tramway/tramway/idl/Token$Kind;"⟩ : MethodName) (head1 (Jvm.Cond.code (⟨"com/example/tramway/tramway/idl/TokenIsPinLaw", "kind", "(I)Lcom/example/tramway/tramway/idl/Token$Kind;"⟩ : MethodName) method_2_code 1 (some (.object "com/example/tramway/tramway/idl/Token$Kind")) :: ws) ({ frames := 0, cells := 0, slots := 0, locals := 0 } : Room)) (fun a U => a = #[(.int p1)] ∧ Z.Warmed39 U.vm ∧ U.heap = h0) (fun _ _ _ _ _ => True) (fun _ U o U' => ∃ v L, o = .returned v ∧ QK w h0 n0 v U'.heap L ∧ FrameEnd U o U' L ({ frames := 0, cells := 0, slots := 0, locals := 0 } : Room).cells ({ frames := 0, cells := 0, slots := 0, locals := 0 } : Room).slots) := by
  refine MetFree.of_bodySF (plainFor_of_name pnL) hisR ?_
  intro p e s m args below meth c s₁ Bd hml0 hP hK
  obtain ⟨rfl, hZ, hh⟩ := hP
  have hx := Bd.exec
  have hby := Bd.bytes
  have hml : c.maxLocals = 1 := hml0
  have hown : s.vm.findClass "com/example/tramway/tramway/idl/TokenIsPinLaw" = some m.cls := findClass_of_methodNamed Bd.named
  have hnm := (name_of_methodNamed Bd.named Bd.method).1
  have X0 : Stand p l e ({ frames := 0, cells := 0, slots := 0, locals := 0 } : Room) s m #[(.int p1)] below meth c s₁ [] 0 0 := Stand.of_body Bd
  have e0 : s₁.heap = h0 := by rw [← hh, Bd.state]; rfl
  have N0 := Fr.nil n0
  have go0 : ∀ t, Steps p.tables e below (s₁.setTop (mkF m 0 #[.val (.int p1)] [])) t → Steps p.tables e below (s₁.setTop (entryFrame m #[(.int p1)] 1)) t := fun t k => castTop (efK m p1) k
  obtain ⟨T101, X101, e101, st101⟩ := getS2 X0 hx hZ hown (host := "") (Or.inl (hw _ (List.mem_of_getElem? (i := 102) rfl))) Via.refl e0 S (g := (mkF m 119 #[.val (.int p1)] [])) rfl (hb hby dK_119)
  obtain ⟨fs, hr, hrun, hended, hW, hsame⟩ := X101.leave (v := some (.ref w)) (fun h => by rw [Bd.returns] at h; cases h)
  refine ⟨_, _, go0 _ ?_, hrun, hended, _, _, rfl, ?_, ⟨_, rfl⟩, hW, hsame.mono (by decide) (by decide)⟩
  · show Steps p.tables e below (s₁.setTop (mkF m 0 #[.val (.int p1)] [])) _
    refine XS.iloadN X0.here hx rfl (hb hby dK_0) rfl ?_
    show Steps p.tables e below (s₁.setTop (mkF m 1 #[.val (.int p1)] [(.int p1)])) _
    refine XS.ifYes X0.here hx rfl (pc0 := 1) (pc' := 8) rfl (hb hby dK_1) rfl ((if0 _ _).trans (feq (z0 : ¬ (p1 = (0 : Int32)))).2) (by decide) (by decide) ?_
    show Steps p.tables e below (s₁.setTop (mkF m 8 #[.val (.int p1)] [])) _
    refine XS.iloadN X0.here hx rfl (hb hby dK_8) rfl ?_
    show Steps p.tables e below (s₁.setTop (mkF m 9 #[.val (.int p1)] [(.int p1)])) _
    refine XS.iconst X0.here hx rfl (hb hby dK_9) ?_
    show Steps p.tables e below (s₁.setTop (mkF m 10 #[.val (.int p1)] [(.int (1 : Int32)), (.int p1)])) _
    refine XS.icmpYes X0.here hx rfl (pc0 := 10) (pc' := 17) rfl (hb hby dK_10) rfl (feq (z1 : ¬ (p1 = (1 : Int32)))).2 (by decide) (by decide) ?_
    show Steps p.tables e below (s₁.setTop (mkF m 17 #[.val (.int p1)] [])) _
    refine XS.iloadN X0.here hx rfl (hb hby dK_17) rfl ?_
    show Steps p.tables e below (s₁.setTop (mkF m 18 #[.val (.int p1)] [(.int p1)])) _
    refine XS.iconst X0.here hx rfl (hb hby dK_18) ?_
    show Steps p.tables e below (s₁.setTop (mkF m 19 #[.val (.int p1)] [(.int (2 : Int32)), (.int p1)])) _
    refine XS.icmpYes X0.here hx rfl (pc0 := 19) (pc' := 26) rfl (hb hby dK_19) rfl (feq (z2 : ¬ (p1 = (2 : Int32)))).2 (by decide) (by decide) ?_
    show Steps p.tables e below (s₁.setTop (mkF m 26 #[.val (.int p1)] [])) _
    refine XS.iloadN X0.here hx rfl (hb hby dK_26) rfl ?_
    show Steps p.tables e below (s₁.setTop (mkF m 27 #[.val (.int p1)] [(.int p1)])) _
    refine XS.iconst X0.here hx rfl (hb hby dK_27) ?_
    show Steps p.tables e below (s₁.setTop (mkF m 28 #[.val (.int p1)] [(.int (3 : Int32)), (.int p1)])) _
    refine XS.icmpYes X0.here hx rfl (pc0 := 28) (pc' := 35) rfl (hb hby dK_28) rfl (feq (z3 : ¬ (p1 = (3 : Int32)))).2 (by decide) (by decide) ?_
    show Steps p.tables e below (s₁.setTop (mkF m 35 #[.val (.int p1)] [])) _
    refine XS.iloadN X0.here hx rfl (hb hby dK_35) rfl ?_
    show Steps p.tables e below (s₁.setTop (mkF m 36 #[.val (.int p1)] [(.int p1)])) _
    refine XS.iconst X0.here hx rfl (hb hby dK_36) ?_
    show Steps p.tables e below (s₁.setTop (mkF m 37 #[.val (.int p1)] [(.int (4 : Int32)), (.int p1)])) _
    refine XS.icmpYes X0.here hx rfl (pc0 := 37) (pc' := 44) rfl (hb hby dK_37) rfl (feq (z4 : ¬ (p1 = (4 : Int32)))).2 (by decide) (by decide) ?_
    show Steps p.tables e below (s₁.setTop (mkF m 44 #[.val (.int p1)] [])) _
    refine XS.iloadN X0.here hx rfl (hb hby dK_44) rfl ?_
    show Steps p.tables e below (s₁.setTop (mkF m 45 #[.val (.int p1)] [(.int p1)])) _
    refine XS.iconst X0.here hx rfl (hb hby dK_45) ?_
    show Steps p.tables e below (s₁.setTop (mkF m 46 #[.val (.int p1)] [(.int (5 : Int32)), (.int p1)])) _
    refine XS.icmpYes X0.here hx rfl (pc0 := 46) (pc' := 53) rfl (hb hby dK_46) rfl (feq (z5 : ¬ (p1 = (5 : Int32)))).2 (by decide) (by decide) ?_
    show Steps p.tables e below (s₁.setTop (mkF m 53 #[.val (.int p1)] [])) _
    refine XS.iloadN X0.here hx rfl (hb hby dK_53) rfl ?_
    show Steps p.tables e below (s₁.setTop (mkF m 54 #[.val (.int p1)] [(.int p1)])) _
    refine XS.bipush X0.here hx rfl (hb hby dK_54) ?_
    show Steps p.tables e below (s₁.setTop (mkF m 56 #[.val (.int p1)] [(.int (6 : Int32)), (.int p1)])) _
    refine XS.icmpYes X0.here hx rfl (pc0 := 56) (pc' := 63) rfl (hb hby dK_56) rfl (feq (z6 : ¬ (p1 = (6 : Int32)))).2 (by decide) (by decide) ?_
    show Steps p.tables e below (s₁.setTop (mkF m 63 #[.val (.int p1)] [])) _
    refine XS.iloadN X0.here hx rfl (hb hby dK_63) rfl ?_
    show Steps p.tables e below (s₁.setTop (mkF m 64 #[.val (.int p1)] [(.int p1)])) _
    refine XS.bipush X0.here hx rfl (hb hby dK_64) ?_
    show Steps p.tables e below (s₁.setTop (mkF m 66 #[.val (.int p1)] [(.int (7 : Int32)), (.int p1)])) _
    refine XS.icmpYes X0.here hx rfl (pc0 := 66) (pc' := 73) rfl (hb hby dK_66) rfl (feq (z7 : ¬ (p1 = (7 : Int32)))).2 (by decide) (by decide) ?_
    show Steps p.tables e below (s₁.setTop (mkF m 73 #[.val (.int p1)] [])) _
    refine XS.iloadN X0.here hx rfl (hb hby dK_73) rfl ?_
    show Steps p.tables e below (s₁.setTop (mkF m 74 #[.val (.int p1)] [(.int p1)])) _
    refine XS.bipush X0.here hx rfl (hb hby dK_74) ?_
    show Steps p.tables e below (s₁.setTop (mkF m 76 #[.val (.int p1)] [(.int (8 : Int32)), (.int p1)])) _
    refine XS.icmpYes X0.here hx rfl (pc0 := 76) (pc' := 83) rfl (hb hby dK_76) rfl (feq (z8 : ¬ (p1 = (8 : Int32)))).2 (by decide) (by decide) ?_
    show Steps p.tables e below (s₁.setTop (mkF m 83 #[.val (.int p1)] [])) _
    refine XS.iloadN X0.here hx rfl (hb hby dK_83) rfl ?_
    show Steps p.tables e below (s₁.setTop (mkF m 84 #[.val (.int p1)] [(.int p1)])) _
    refine XS.bipush X0.here hx rfl (hb hby dK_84) ?_
    show Steps p.tables e below (s₁.setTop (mkF m 86 #[.val (.int p1)] [(.int (9 : Int32)), (.int p1)])) _
    refine XS.icmpYes X0.here hx rfl (pc0 := 86) (pc' := 93) rfl (hb hby dK_86) rfl (feq (z9 : ¬ (p1 = (9 : Int32)))).2 (by decide) (by decide) ?_
    show Steps p.tables e below (s₁.setTop (mkF m 93 #[.val (.int p1)] [])) _
    refine XS.iloadN X0.here hx rfl (hb hby dK_93) rfl ?_
    show Steps p.tables e below (s₁.setTop (mkF m 94 #[.val (.int p1)] [(.int p1)])) _
    refine XS.bipush X0.here hx rfl (hb hby dK_94) ?_
    show Steps p.tables e below (s₁.setTop (mkF m 96 #[.val (.int p1)] [(.int (10 : Int32)), (.int p1)])) _
    refine XS.icmpYes X0.here hx rfl (pc0 := 96) (pc' := 103) rfl (hb hby dK_96) rfl (feq (z10 : ¬ (p1 = (10 : Int32)))).2 (by decide) (by decide) ?_
    show Steps p.tables e below (s₁.setTop (mkF m 103 #[.val (.int p1)] [])) _
    refine XS.iloadN X0.here hx rfl (hb hby dK_103) rfl ?_
    show Steps p.tables e below (s₁.setTop (mkF m 104 #[.val (.int p1)] [(.int p1)])) _
    refine XS.bipush X0.here hx rfl (hb hby dK_104) ?_
    show Steps p.tables e below (s₁.setTop (mkF m 106 #[.val (.int p1)] [(.int (11 : Int32)), (.int p1)])) _
    refine XS.icmpYes X0.here hx rfl (pc0 := 106) (pc' := 113) rfl (hb hby dK_106) rfl (feq (z11 : ¬ (p1 = (11 : Int32)))).2 (by decide) (by decide) ?_
    show Steps p.tables e below (s₁.setTop (mkF m 113 #[.val (.int p1)] [])) _
    refine XS.iloadN X0.here hx rfl (hb hby dK_113) rfl ?_
    show Steps p.tables e below (s₁.setTop (mkF m 114 #[.val (.int p1)] [(.int p1)])) _
    refine XS.bipush X0.here hx rfl (hb hby dK_114) ?_
    show Steps p.tables e below (s₁.setTop (mkF m 116 #[.val (.int p1)] [(.int (12 : Int32)), (.int p1)])) _
    refine XS.icmpNo X0.here hx rfl (hb hby dK_116) rfl (teq (y : p1 = (12 : Int32))).2 ?_
    show Steps p.tables e below (s₁.setTop (mkF m 119 #[.val (.int p1)] [])) _
    refine st101 _ ?_
    show Steps p.tables e below (T101.setTop (mkF m 122 #[.val (.int p1)] [(.ref w)])) _
    jvm_step X101.here [X101.here.top, hx, (hb hby dK_122), X101.method', Bd.returns, Value.isRef, FieldType.isReference]
    first | (intro acts; rw [hr _ acts rfl rfl rfl]) | rw [hr _ _ rfl rfl rfl]
    exact Steps.refl _
  · show QK w h0 n0 _ T101.heap _
    rw [e101]
    exact ⟨rfl, N0, rfl⟩
set_option maxRecDepth 65536 in
set_option maxHeartbeats 40000000 in
theorem rmK_13 (l : Launch) (Z : State) (a0 : Array Value) (hw : ∀ d ∈ tables_1, d.before a0 Z = true) (ws : List Jvm.Cond) (p1 : Int32) (w : Addr) (h0 : Heap) (n0 : Nat) (S : Sta Z h0 "com/example/tramway/tramway/idl/Token$Kind" "PRAGMA_ID" "Lcom/example/tramway/tramway/idl/Token$Kind;" (.ref w)) (z0 : ¬ (p1 = (0 : Int32))) (z1 : ¬ (p1 = (1 : Int32))) (z2 : ¬ (p1 = (2 : Int32))) (z3 : ¬ (p1 = (3 : Int32))) (z4 : ¬ (p1 = (4 : Int32))) (z5 : ¬ (p1 = (5 : Int32))) (z6 : ¬ (p1 = (6 : Int32))) (z7 : ¬ (p1 = (7 : Int32))) (z8 : ¬ (p1 = (8 : Int32))) (z9 : ¬ (p1 = (9 : Int32))) (z10 : ¬ (p1 = (10 : Int32))) (z11 : ¬ (p1 = (11 : Int32))) (z12 : ¬ (p1 = (12 : Int32))) (y : p1 = (13 : Int32)) :
    MetFree l (⟨"com/example/tramway/tramway/idl/TokenIsPinLaw", "kind", "(I)Lcom/example/tramway/tramway/idl/Token$Kind;"⟩ : MethodName) (head1 (Jvm.Cond.code (⟨"com/example/tramway/tramway/idl/TokenIsPinLaw", "kind", "(I)Lcom/example/tramway/tramway/idl/Token$Kind;"⟩ : MethodName) method_2_code 1 (some (.object "com/example/tramway/tramway/idl/Token$Kind")) :: ws) ({ frames := 0, cells := 0, slots := 0, locals := 0 } : Room)) (fun a U => a = #[(.int p1)] ∧ Z.Warmed39 U.vm ∧ U.heap = h0) (fun _ _ _ _ _ => True) (fun _ U o U' => ∃ v L, o = .returned v ∧ QK w h0 n0 v U'.heap L ∧ FrameEnd U o U' L ({ frames := 0, cells := 0, slots := 0, locals := 0 } : Room).cells ({ frames := 0, cells := 0, slots := 0, locals := 0 } : Room).slots) := by
  refine MetFree.of_bodySF (plainFor_of_name pnL) hisR ?_
  intro p e s m args below meth c s₁ Bd hml0 hP hK
  obtain ⟨rfl, hZ, hh⟩ := hP
  have hx := Bd.exec
  have hby := Bd.bytes
  have hml : c.maxLocals = 1 := hml0
  have hown : s.vm.findClass "com/example/tramway/tramway/idl/TokenIsPinLaw" = some m.cls := findClass_of_methodNamed Bd.named
  have hnm := (name_of_methodNamed Bd.named Bd.method).1
  have X0 : Stand p l e ({ frames := 0, cells := 0, slots := 0, locals := 0 } : Room) s m #[(.int p1)] below meth c s₁ [] 0 0 := Stand.of_body Bd
  have e0 : s₁.heap = h0 := by rw [← hh, Bd.state]; rfl
  have N0 := Fr.nil n0
  have go0 : ∀ t, Steps p.tables e below (s₁.setTop (mkF m 0 #[.val (.int p1)] [])) t → Steps p.tables e below (s₁.setTop (entryFrame m #[(.int p1)] 1)) t := fun t k => castTop (efK m p1) k
  obtain ⟨T101, X101, e101, st101⟩ := getS2 X0 hx hZ hown (host := "") (Or.inl (hw _ (List.mem_of_getElem? (i := 96) rfl))) Via.refl e0 S (g := (mkF m 129 #[.val (.int p1)] [])) rfl (hb hby dK_129)
  obtain ⟨fs, hr, hrun, hended, hW, hsame⟩ := X101.leave (v := some (.ref w)) (fun h => by rw [Bd.returns] at h; cases h)
  refine ⟨_, _, go0 _ ?_, hrun, hended, _, _, rfl, ?_, ⟨_, rfl⟩, hW, hsame.mono (by decide) (by decide)⟩
  · show Steps p.tables e below (s₁.setTop (mkF m 0 #[.val (.int p1)] [])) _
    refine XS.iloadN X0.here hx rfl (hb hby dK_0) rfl ?_
    show Steps p.tables e below (s₁.setTop (mkF m 1 #[.val (.int p1)] [(.int p1)])) _
    refine XS.ifYes X0.here hx rfl (pc0 := 1) (pc' := 8) rfl (hb hby dK_1) rfl ((if0 _ _).trans (feq (z0 : ¬ (p1 = (0 : Int32)))).2) (by decide) (by decide) ?_
    show Steps p.tables e below (s₁.setTop (mkF m 8 #[.val (.int p1)] [])) _
    refine XS.iloadN X0.here hx rfl (hb hby dK_8) rfl ?_
    show Steps p.tables e below (s₁.setTop (mkF m 9 #[.val (.int p1)] [(.int p1)])) _
    refine XS.iconst X0.here hx rfl (hb hby dK_9) ?_
    show Steps p.tables e below (s₁.setTop (mkF m 10 #[.val (.int p1)] [(.int (1 : Int32)), (.int p1)])) _
    refine XS.icmpYes X0.here hx rfl (pc0 := 10) (pc' := 17) rfl (hb hby dK_10) rfl (feq (z1 : ¬ (p1 = (1 : Int32)))).2 (by decide) (by decide) ?_
    show Steps p.tables e below (s₁.setTop (mkF m 17 #[.val (.int p1)] [])) _
    refine XS.iloadN X0.here hx rfl (hb hby dK_17) rfl ?_
    show Steps p.tables e below (s₁.setTop (mkF m 18 #[.val (.int p1)] [(.int p1)])) _
    refine XS.iconst X0.here hx rfl (hb hby dK_18) ?_
    show Steps p.tables e below (s₁.setTop (mkF m 19 #[.val (.int p1)] [(.int (2 : Int32)), (.int p1)])) _
    refine XS.icmpYes X0.here hx rfl (pc0 := 19) (pc' := 26) rfl (hb hby dK_19) rfl (feq (z2 : ¬ (p1 = (2 : Int32)))).2 (by decide) (by decide) ?_
    show Steps p.tables e below (s₁.setTop (mkF m 26 #[.val (.int p1)] [])) _
    refine XS.iloadN X0.here hx rfl (hb hby dK_26) rfl ?_
    show Steps p.tables e below (s₁.setTop (mkF m 27 #[.val (.int p1)] [(.int p1)])) _
    refine XS.iconst X0.here hx rfl (hb hby dK_27) ?_
    show Steps p.tables e below (s₁.setTop (mkF m 28 #[.val (.int p1)] [(.int (3 : Int32)), (.int p1)])) _
    refine XS.icmpYes X0.here hx rfl (pc0 := 28) (pc' := 35) rfl (hb hby dK_28) rfl (feq (z3 : ¬ (p1 = (3 : Int32)))).2 (by decide) (by decide) ?_
    show Steps p.tables e below (s₁.setTop (mkF m 35 #[.val (.int p1)] [])) _
    refine XS.iloadN X0.here hx rfl (hb hby dK_35) rfl ?_
    show Steps p.tables e below (s₁.setTop (mkF m 36 #[.val (.int p1)] [(.int p1)])) _
    refine XS.iconst X0.here hx rfl (hb hby dK_36) ?_
    show Steps p.tables e below (s₁.setTop (mkF m 37 #[.val (.int p1)] [(.int (4 : Int32)), (.int p1)])) _
    refine XS.icmpYes X0.here hx rfl (pc0 := 37) (pc' := 44) rfl (hb hby dK_37) rfl (feq (z4 : ¬ (p1 = (4 : Int32)))).2 (by decide) (by decide) ?_
    show Steps p.tables e below (s₁.setTop (mkF m 44 #[.val (.int p1)] [])) _
    refine XS.iloadN X0.here hx rfl (hb hby dK_44) rfl ?_
    show Steps p.tables e below (s₁.setTop (mkF m 45 #[.val (.int p1)] [(.int p1)])) _
    refine XS.iconst X0.here hx rfl (hb hby dK_45) ?_
    show Steps p.tables e below (s₁.setTop (mkF m 46 #[.val (.int p1)] [(.int (5 : Int32)), (.int p1)])) _
    refine XS.icmpYes X0.here hx rfl (pc0 := 46) (pc' := 53) rfl (hb hby dK_46) rfl (feq (z5 : ¬ (p1 = (5 : Int32)))).2 (by decide) (by decide) ?_
    show Steps p.tables e below (s₁.setTop (mkF m 53 #[.val (.int p1)] [])) _
    refine XS.iloadN X0.here hx rfl (hb hby dK_53) rfl ?_
    show Steps p.tables e below (s₁.setTop (mkF m 54 #[.val (.int p1)] [(.int p1)])) _
    refine XS.bipush X0.here hx rfl (hb hby dK_54) ?_
    show Steps p.tables e below (s₁.setTop (mkF m 56 #[.val (.int p1)] [(.int (6 : Int32)), (.int p1)])) _
    refine XS.icmpYes X0.here hx rfl (pc0 := 56) (pc' := 63) rfl (hb hby dK_56) rfl (feq (z6 : ¬ (p1 = (6 : Int32)))).2 (by decide) (by decide) ?_
    show Steps p.tables e below (s₁.setTop (mkF m 63 #[.val (.int p1)] [])) _
    refine XS.iloadN X0.here hx rfl (hb hby dK_63) rfl ?_
    show Steps p.tables e below (s₁.setTop (mkF m 64 #[.val (.int p1)] [(.int p1)])) _
    refine XS.bipush X0.here hx rfl (hb hby dK_64) ?_
    show Steps p.tables e below (s₁.setTop (mkF m 66 #[.val (.int p1)] [(.int (7 : Int32)), (.int p1)])) _
    refine XS.icmpYes X0.here hx rfl (pc0 := 66) (pc' := 73) rfl (hb hby dK_66) rfl (feq (z7 : ¬ (p1 = (7 : Int32)))).2 (by decide) (by decide) ?_
    show Steps p.tables e below (s₁.setTop (mkF m 73 #[.val (.int p1)] [])) _
    refine XS.iloadN X0.here hx rfl (hb hby dK_73) rfl ?_
    show Steps p.tables e below (s₁.setTop (mkF m 74 #[.val (.int p1)] [(.int p1)])) _
    refine XS.bipush X0.here hx rfl (hb hby dK_74) ?_
    show Steps p.tables e below (s₁.setTop (mkF m 76 #[.val (.int p1)] [(.int (8 : Int32)), (.int p1)])) _
    refine XS.icmpYes X0.here hx rfl (pc0 := 76) (pc' := 83) rfl (hb hby dK_76) rfl (feq (z8 : ¬ (p1 = (8 : Int32)))).2 (by decide) (by decide) ?_
    show Steps p.tables e below (s₁.setTop (mkF m 83 #[.val (.int p1)] [])) _
    refine XS.iloadN X0.here hx rfl (hb hby dK_83) rfl ?_
    show Steps p.tables e below (s₁.setTop (mkF m 84 #[.val (.int p1)] [(.int p1)])) _
    refine XS.bipush X0.here hx rfl (hb hby dK_84) ?_
    show Steps p.tables e below (s₁.setTop (mkF m 86 #[.val (.int p1)] [(.int (9 : Int32)), (.int p1)])) _
    refine XS.icmpYes X0.here hx rfl (pc0 := 86) (pc' := 93) rfl (hb hby dK_86) rfl (feq (z9 : ¬ (p1 = (9 : Int32)))).2 (by decide) (by decide) ?_
    show Steps p.tables e below (s₁.setTop (mkF m 93 #[.val (.int p1)] [])) _
    refine XS.iloadN X0.here hx rfl (hb hby dK_93) rfl ?_
    show Steps p.tables e below (s₁.setTop (mkF m 94 #[.val (.int p1)] [(.int p1)])) _
    refine XS.bipush X0.here hx rfl (hb hby dK_94) ?_
    show Steps p.tables e below (s₁.setTop (mkF m 96 #[.val (.int p1)] [(.int (10 : Int32)), (.int p1)])) _
    refine XS.icmpYes X0.here hx rfl (pc0 := 96) (pc' := 103) rfl (hb hby dK_96) rfl (feq (z10 : ¬ (p1 = (10 : Int32)))).2 (by decide) (by decide) ?_
    show Steps p.tables e below (s₁.setTop (mkF m 103 #[.val (.int p1)] [])) _
    refine XS.iloadN X0.here hx rfl (hb hby dK_103) rfl ?_
    show Steps p.tables e below (s₁.setTop (mkF m 104 #[.val (.int p1)] [(.int p1)])) _
    refine XS.bipush X0.here hx rfl (hb hby dK_104) ?_
    show Steps p.tables e below (s₁.setTop (mkF m 106 #[.val (.int p1)] [(.int (11 : Int32)), (.int p1)])) _
    refine XS.icmpYes X0.here hx rfl (pc0 := 106) (pc' := 113) rfl (hb hby dK_106) rfl (feq (z11 : ¬ (p1 = (11 : Int32)))).2 (by decide) (by decide) ?_
    show Steps p.tables e below (s₁.setTop (mkF m 113 #[.val (.int p1)] [])) _
    refine XS.iloadN X0.here hx rfl (hb hby dK_113) rfl ?_
    show Steps p.tables e below (s₁.setTop (mkF m 114 #[.val (.int p1)] [(.int p1)])) _
    refine XS.bipush X0.here hx rfl (hb hby dK_114) ?_
    show Steps p.tables e below (s₁.setTop (mkF m 116 #[.val (.int p1)] [(.int (12 : Int32)), (.int p1)])) _
    refine XS.icmpYes X0.here hx rfl (pc0 := 116) (pc' := 123) rfl (hb hby dK_116) rfl (feq (z12 : ¬ (p1 = (12 : Int32)))).2 (by decide) (by decide) ?_
    show Steps p.tables e below (s₁.setTop (mkF m 123 #[.val (.int p1)] [])) _
    refine XS.iloadN X0.here hx rfl (hb hby dK_123) rfl ?_
    show Steps p.tables e below (s₁.setTop (mkF m 124 #[.val (.int p1)] [(.int p1)])) _
    refine XS.bipush X0.here hx rfl (hb hby dK_124) ?_
    show Steps p.tables e below (s₁.setTop (mkF m 126 #[.val (.int p1)] [(.int (13 : Int32)), (.int p1)])) _
    refine XS.icmpNo X0.here hx rfl (hb hby dK_126) rfl (teq (y : p1 = (13 : Int32))).2 ?_
    show Steps p.tables e below (s₁.setTop (mkF m 129 #[.val (.int p1)] [])) _
    refine st101 _ ?_
    show Steps p.tables e below (T101.setTop (mkF m 132 #[.val (.int p1)] [(.ref w)])) _
    jvm_step X101.here [X101.here.top, hx, (hb hby dK_132), X101.method', Bd.returns, Value.isRef, FieldType.isReference]
    first | (intro acts; rw [hr _ acts rfl rfl rfl]) | rw [hr _ _ rfl rfl rfl]
    exact Steps.refl _
  · show QK w h0 n0 _ T101.heap _
    rw [e101]
    exact ⟨rfl, N0, rfl⟩
set_option maxRecDepth 65536 in
set_option maxHeartbeats 40000000 in
theorem rmK_14 (l : Launch) (Z : State) (a0 : Array Value) (hw : ∀ d ∈ tables_1, d.before a0 Z = true) (ws : List Jvm.Cond) (p1 : Int32) (w : Addr) (h0 : Heap) (n0 : Nat) (S : Sta Z h0 "com/example/tramway/tramway/idl/Token$Kind" "PRAGMA_VERSION" "Lcom/example/tramway/tramway/idl/Token$Kind;" (.ref w)) (z0 : ¬ (p1 = (0 : Int32))) (z1 : ¬ (p1 = (1 : Int32))) (z2 : ¬ (p1 = (2 : Int32))) (z3 : ¬ (p1 = (3 : Int32))) (z4 : ¬ (p1 = (4 : Int32))) (z5 : ¬ (p1 = (5 : Int32))) (z6 : ¬ (p1 = (6 : Int32))) (z7 : ¬ (p1 = (7 : Int32))) (z8 : ¬ (p1 = (8 : Int32))) (z9 : ¬ (p1 = (9 : Int32))) (z10 : ¬ (p1 = (10 : Int32))) (z11 : ¬ (p1 = (11 : Int32))) (z12 : ¬ (p1 = (12 : Int32))) (z13 : ¬ (p1 = (13 : Int32))) (y : p1 = (14 : Int32)) :
    MetFree l (⟨"com/example/tramway/tramway/idl/TokenIsPinLaw", "kind", "(I)Lcom/example/tramway/tramway/idl/Token$Kind;"⟩ : MethodName) (head1 (Jvm.Cond.code (⟨"com/example/tramway/tramway/idl/TokenIsPinLaw", "kind", "(I)Lcom/example/tramway/tramway/idl/Token$Kind;"⟩ : MethodName) method_2_code 1 (some (.object "com/example/tramway/tramway/idl/Token$Kind")) :: ws) ({ frames := 0, cells := 0, slots := 0, locals := 0 } : Room)) (fun a U => a = #[(.int p1)] ∧ Z.Warmed39 U.vm ∧ U.heap = h0) (fun _ _ _ _ _ => True) (fun _ U o U' => ∃ v L, o = .returned v ∧ QK w h0 n0 v U'.heap L ∧ FrameEnd U o U' L ({ frames := 0, cells := 0, slots := 0, locals := 0 } : Room).cells ({ frames := 0, cells := 0, slots := 0, locals := 0 } : Room).slots) := by
  refine MetFree.of_bodySF (plainFor_of_name pnL) hisR ?_
  intro p e s m args below meth c s₁ Bd hml0 hP hK
  obtain ⟨rfl, hZ, hh⟩ := hP
  have hx := Bd.exec
  have hby := Bd.bytes
  have hml : c.maxLocals = 1 := hml0
  have hown : s.vm.findClass "com/example/tramway/tramway/idl/TokenIsPinLaw" = some m.cls := findClass_of_methodNamed Bd.named
  have hnm := (name_of_methodNamed Bd.named Bd.method).1
  have X0 : Stand p l e ({ frames := 0, cells := 0, slots := 0, locals := 0 } : Room) s m #[(.int p1)] below meth c s₁ [] 0 0 := Stand.of_body Bd
  have e0 : s₁.heap = h0 := by rw [← hh, Bd.state]; rfl
  have N0 := Fr.nil n0
  have go0 : ∀ t, Steps p.tables e below (s₁.setTop (mkF m 0 #[.val (.int p1)] [])) t → Steps p.tables e below (s₁.setTop (entryFrame m #[(.int p1)] 1)) t := fun t k => castTop (efK m p1) k
  obtain ⟨T101, X101, e101, st101⟩ := getS2 X0 hx hZ hown (host := "") (Or.inl (hw _ (List.mem_of_getElem? (i := 100) rfl))) Via.refl e0 S (g := (mkF m 139 #[.val (.int p1)] [])) rfl (hb hby dK_139)
  obtain ⟨fs, hr, hrun, hended, hW, hsame⟩ := X101.leave (v := some (.ref w)) (fun h => by rw [Bd.returns] at h; cases h)
  refine ⟨_, _, go0 _ ?_, hrun, hended, _, _, rfl, ?_, ⟨_, rfl⟩, hW, hsame.mono (by decide) (by decide)⟩
  · show Steps p.tables e below (s₁.setTop (mkF m 0 #[.val (.int p1)] [])) _
    refine XS.iloadN X0.here hx rfl (hb hby dK_0) rfl ?_
    show Steps p.tables e below (s₁.setTop (mkF m 1 #[.val (.int p1)] [(.int p1)])) _
    refine XS.ifYes X0.here hx rfl (pc0 := 1) (pc' := 8) rfl (hb hby dK_1) rfl ((if0 _ _).trans (feq (z0 : ¬ (p1 = (0 : Int32)))).2) (by decide) (by decide) ?_
    show Steps p.tables e below (s₁.setTop (mkF m 8 #[.val (.int p1)] [])) _
    refine XS.iloadN X0.here hx rfl (hb hby dK_8) rfl ?_
    show Steps p.tables e below (s₁.setTop (mkF m 9 #[.val (.int p1)] [(.int p1)])) _
    refine XS.iconst X0.here hx rfl (hb hby dK_9) ?_
    show Steps p.tables e below (s₁.setTop (mkF m 10 #[.val (.int p1)] [(.int (1 : Int32)), (.int p1)])) _
    refine XS.icmpYes X0.here hx rfl (pc0 := 10) (pc' := 17) rfl (hb hby dK_10) rfl (feq (z1 : ¬ (p1 = (1 : Int32)))).2 (by decide) (by decide) ?_
    show Steps p.tables e below (s₁.setTop (mkF m 17 #[.val (.int p1)] [])) _
    refine XS.iloadN X0.here hx rfl (hb hby dK_17) rfl ?_
    show Steps p.tables e below (s₁.setTop (mkF m 18 #[.val (.int p1)] [(.int p1)])) _
    refine XS.iconst X0.here hx rfl (hb hby dK_18) ?_
    show Steps p.tables e below (s₁.setTop (mkF m 19 #[.val (.int p1)] [(.int (2 : Int32)), (.int p1)])) _
    refine XS.icmpYes X0.here hx rfl (pc0 := 19) (pc' := 26) rfl (hb hby dK_19) rfl (feq (z2 : ¬ (p1 = (2 : Int32)))).2 (by decide) (by decide) ?_
    show Steps p.tables e below (s₁.setTop (mkF m 26 #[.val (.int p1)] [])) _
    refine XS.iloadN X0.here hx rfl (hb hby dK_26) rfl ?_
    show Steps p.tables e below (s₁.setTop (mkF m 27 #[.val (.int p1)] [(.int p1)])) _
    refine XS.iconst X0.here hx rfl (hb hby dK_27) ?_
    show Steps p.tables e below (s₁.setTop (mkF m 28 #[.val (.int p1)] [(.int (3 : Int32)), (.int p1)])) _
    refine XS.icmpYes X0.here hx rfl (pc0 := 28) (pc' := 35) rfl (hb hby dK_28) rfl (feq (z3 : ¬ (p1 = (3 : Int32)))).2 (by decide) (by decide) ?_
    show Steps p.tables e below (s₁.setTop (mkF m 35 #[.val (.int p1)] [])) _
    refine XS.iloadN X0.here hx rfl (hb hby dK_35) rfl ?_
    show Steps p.tables e below (s₁.setTop (mkF m 36 #[.val (.int p1)] [(.int p1)])) _
    refine XS.iconst X0.here hx rfl (hb hby dK_36) ?_
    show Steps p.tables e below (s₁.setTop (mkF m 37 #[.val (.int p1)] [(.int (4 : Int32)), (.int p1)])) _
    refine XS.icmpYes X0.here hx rfl (pc0 := 37) (pc' := 44) rfl (hb hby dK_37) rfl (feq (z4 : ¬ (p1 = (4 : Int32)))).2 (by decide) (by decide) ?_
    show Steps p.tables e below (s₁.setTop (mkF m 44 #[.val (.int p1)] [])) _
    refine XS.iloadN X0.here hx rfl (hb hby dK_44) rfl ?_
    show Steps p.tables e below (s₁.setTop (mkF m 45 #[.val (.int p1)] [(.int p1)])) _
    refine XS.iconst X0.here hx rfl (hb hby dK_45) ?_
    show Steps p.tables e below (s₁.setTop (mkF m 46 #[.val (.int p1)] [(.int (5 : Int32)), (.int p1)])) _
    refine XS.icmpYes X0.here hx rfl (pc0 := 46) (pc' := 53) rfl (hb hby dK_46) rfl (feq (z5 : ¬ (p1 = (5 : Int32)))).2 (by decide) (by decide) ?_
    show Steps p.tables e below (s₁.setTop (mkF m 53 #[.val (.int p1)] [])) _
    refine XS.iloadN X0.here hx rfl (hb hby dK_53) rfl ?_
    show Steps p.tables e below (s₁.setTop (mkF m 54 #[.val (.int p1)] [(.int p1)])) _
    refine XS.bipush X0.here hx rfl (hb hby dK_54) ?_
    show Steps p.tables e below (s₁.setTop (mkF m 56 #[.val (.int p1)] [(.int (6 : Int32)), (.int p1)])) _
    refine XS.icmpYes X0.here hx rfl (pc0 := 56) (pc' := 63) rfl (hb hby dK_56) rfl (feq (z6 : ¬ (p1 = (6 : Int32)))).2 (by decide) (by decide) ?_
    show Steps p.tables e below (s₁.setTop (mkF m 63 #[.val (.int p1)] [])) _
    refine XS.iloadN X0.here hx rfl (hb hby dK_63) rfl ?_
    show Steps p.tables e below (s₁.setTop (mkF m 64 #[.val (.int p1)] [(.int p1)])) _
    refine XS.bipush X0.here hx rfl (hb hby dK_64) ?_
    show Steps p.tables e below (s₁.setTop (mkF m 66 #[.val (.int p1)] [(.int (7 : Int32)), (.int p1)])) _
    refine XS.icmpYes X0.here hx rfl (pc0 := 66) (pc' := 73) rfl (hb hby dK_66) rfl (feq (z7 : ¬ (p1 = (7 : Int32)))).2 (by decide) (by decide) ?_
    show Steps p.tables e below (s₁.setTop (mkF m 73 #[.val (.int p1)] [])) _
    refine XS.iloadN X0.here hx rfl (hb hby dK_73) rfl ?_
    show Steps p.tables e below (s₁.setTop (mkF m 74 #[.val (.int p1)] [(.int p1)])) _
    refine XS.bipush X0.here hx rfl (hb hby dK_74) ?_
    show Steps p.tables e below (s₁.setTop (mkF m 76 #[.val (.int p1)] [(.int (8 : Int32)), (.int p1)])) _
    refine XS.icmpYes X0.here hx rfl (pc0 := 76) (pc' := 83) rfl (hb hby dK_76) rfl (feq (z8 : ¬ (p1 = (8 : Int32)))).2 (by decide) (by decide) ?_
    show Steps p.tables e below (s₁.setTop (mkF m 83 #[.val (.int p1)] [])) _
    refine XS.iloadN X0.here hx rfl (hb hby dK_83) rfl ?_
    show Steps p.tables e below (s₁.setTop (mkF m 84 #[.val (.int p1)] [(.int p1)])) _
    refine XS.bipush X0.here hx rfl (hb hby dK_84) ?_
    show Steps p.tables e below (s₁.setTop (mkF m 86 #[.val (.int p1)] [(.int (9 : Int32)), (.int p1)])) _
    refine XS.icmpYes X0.here hx rfl (pc0 := 86) (pc' := 93) rfl (hb hby dK_86) rfl (feq (z9 : ¬ (p1 = (9 : Int32)))).2 (by decide) (by decide) ?_
    show Steps p.tables e below (s₁.setTop (mkF m 93 #[.val (.int p1)] [])) _
    refine XS.iloadN X0.here hx rfl (hb hby dK_93) rfl ?_
    show Steps p.tables e below (s₁.setTop (mkF m 94 #[.val (.int p1)] [(.int p1)])) _
    refine XS.bipush X0.here hx rfl (hb hby dK_94) ?_
    show Steps p.tables e below (s₁.setTop (mkF m 96 #[.val (.int p1)] [(.int (10 : Int32)), (.int p1)])) _
    refine XS.icmpYes X0.here hx rfl (pc0 := 96) (pc' := 103) rfl (hb hby dK_96) rfl (feq (z10 : ¬ (p1 = (10 : Int32)))).2 (by decide) (by decide) ?_
    show Steps p.tables e below (s₁.setTop (mkF m 103 #[.val (.int p1)] [])) _
    refine XS.iloadN X0.here hx rfl (hb hby dK_103) rfl ?_
    show Steps p.tables e below (s₁.setTop (mkF m 104 #[.val (.int p1)] [(.int p1)])) _
    refine XS.bipush X0.here hx rfl (hb hby dK_104) ?_
    show Steps p.tables e below (s₁.setTop (mkF m 106 #[.val (.int p1)] [(.int (11 : Int32)), (.int p1)])) _
    refine XS.icmpYes X0.here hx rfl (pc0 := 106) (pc' := 113) rfl (hb hby dK_106) rfl (feq (z11 : ¬ (p1 = (11 : Int32)))).2 (by decide) (by decide) ?_
    show Steps p.tables e below (s₁.setTop (mkF m 113 #[.val (.int p1)] [])) _
    refine XS.iloadN X0.here hx rfl (hb hby dK_113) rfl ?_
    show Steps p.tables e below (s₁.setTop (mkF m 114 #[.val (.int p1)] [(.int p1)])) _
    refine XS.bipush X0.here hx rfl (hb hby dK_114) ?_
    show Steps p.tables e below (s₁.setTop (mkF m 116 #[.val (.int p1)] [(.int (12 : Int32)), (.int p1)])) _
    refine XS.icmpYes X0.here hx rfl (pc0 := 116) (pc' := 123) rfl (hb hby dK_116) rfl (feq (z12 : ¬ (p1 = (12 : Int32)))).2 (by decide) (by decide) ?_
    show Steps p.tables e below (s₁.setTop (mkF m 123 #[.val (.int p1)] [])) _
    refine XS.iloadN X0.here hx rfl (hb hby dK_123) rfl ?_
    show Steps p.tables e below (s₁.setTop (mkF m 124 #[.val (.int p1)] [(.int p1)])) _
    refine XS.bipush X0.here hx rfl (hb hby dK_124) ?_
    show Steps p.tables e below (s₁.setTop (mkF m 126 #[.val (.int p1)] [(.int (13 : Int32)), (.int p1)])) _
    refine XS.icmpYes X0.here hx rfl (pc0 := 126) (pc' := 133) rfl (hb hby dK_126) rfl (feq (z13 : ¬ (p1 = (13 : Int32)))).2 (by decide) (by decide) ?_
    show Steps p.tables e below (s₁.setTop (mkF m 133 #[.val (.int p1)] [])) _
    refine XS.iloadN X0.here hx rfl (hb hby dK_133) rfl ?_
    show Steps p.tables e below (s₁.setTop (mkF m 134 #[.val (.int p1)] [(.int p1)])) _
    refine XS.bipush X0.here hx rfl (hb hby dK_134) ?_
    show Steps p.tables e below (s₁.setTop (mkF m 136 #[.val (.int p1)] [(.int (14 : Int32)), (.int p1)])) _
    refine XS.icmpNo X0.here hx rfl (hb hby dK_136) rfl (teq (y : p1 = (14 : Int32))).2 ?_
    show Steps p.tables e below (s₁.setTop (mkF m 139 #[.val (.int p1)] [])) _
    refine st101 _ ?_
    show Steps p.tables e below (T101.setTop (mkF m 142 #[.val (.int p1)] [(.ref w)])) _
    jvm_step X101.here [X101.here.top, hx, (hb hby dK_142), X101.method', Bd.returns, Value.isRef, FieldType.isReference]
    first | (intro acts; rw [hr _ acts rfl rfl rfl]) | rw [hr _ _ rfl rfl rfl]
    exact Steps.refl _
  · show QK w h0 n0 _ T101.heap _
    rw [e101]
    exact ⟨rfl, N0, rfl⟩
set_option maxRecDepth 65536 in
set_option maxHeartbeats 40000000 in
theorem rmK_15 (l : Launch) (Z : State) (a0 : Array Value) (hw : ∀ d ∈ tables_1, d.before a0 Z = true) (ws : List Jvm.Cond) (p1 : Int32) (w : Addr) (h0 : Heap) (n0 : Nat) (S : Sta Z h0 "com/example/tramway/tramway/idl/Token$Kind" "PRAGMA_END" "Lcom/example/tramway/tramway/idl/Token$Kind;" (.ref w)) (z0 : ¬ (p1 = (0 : Int32))) (z1 : ¬ (p1 = (1 : Int32))) (z2 : ¬ (p1 = (2 : Int32))) (z3 : ¬ (p1 = (3 : Int32))) (z4 : ¬ (p1 = (4 : Int32))) (z5 : ¬ (p1 = (5 : Int32))) (z6 : ¬ (p1 = (6 : Int32))) (z7 : ¬ (p1 = (7 : Int32))) (z8 : ¬ (p1 = (8 : Int32))) (z9 : ¬ (p1 = (9 : Int32))) (z10 : ¬ (p1 = (10 : Int32))) (z11 : ¬ (p1 = (11 : Int32))) (z12 : ¬ (p1 = (12 : Int32))) (z13 : ¬ (p1 = (13 : Int32))) (z14 : ¬ (p1 = (14 : Int32))) (y : p1 = (15 : Int32)) :
    MetFree l (⟨"com/example/tramway/tramway/idl/TokenIsPinLaw", "kind", "(I)Lcom/example/tramway/tramway/idl/Token$Kind;"⟩ : MethodName) (head1 (Jvm.Cond.code (⟨"com/example/tramway/tramway/idl/TokenIsPinLaw", "kind", "(I)Lcom/example/tramway/tramway/idl/Token$Kind;"⟩ : MethodName) method_2_code 1 (some (.object "com/example/tramway/tramway/idl/Token$Kind")) :: ws) ({ frames := 0, cells := 0, slots := 0, locals := 0 } : Room)) (fun a U => a = #[(.int p1)] ∧ Z.Warmed39 U.vm ∧ U.heap = h0) (fun _ _ _ _ _ => True) (fun _ U o U' => ∃ v L, o = .returned v ∧ QK w h0 n0 v U'.heap L ∧ FrameEnd U o U' L ({ frames := 0, cells := 0, slots := 0, locals := 0 } : Room).cells ({ frames := 0, cells := 0, slots := 0, locals := 0 } : Room).slots) := by
  refine MetFree.of_bodySF (plainFor_of_name pnL) hisR ?_
  intro p e s m args below meth c s₁ Bd hml0 hP hK
  obtain ⟨rfl, hZ, hh⟩ := hP
  have hx := Bd.exec
  have hby := Bd.bytes
  have hml : c.maxLocals = 1 := hml0
  have hown : s.vm.findClass "com/example/tramway/tramway/idl/TokenIsPinLaw" = some m.cls := findClass_of_methodNamed Bd.named
  have hnm := (name_of_methodNamed Bd.named Bd.method).1
  have X0 : Stand p l e ({ frames := 0, cells := 0, slots := 0, locals := 0 } : Room) s m #[(.int p1)] below meth c s₁ [] 0 0 := Stand.of_body Bd
  have e0 : s₁.heap = h0 := by rw [← hh, Bd.state]; rfl
  have N0 := Fr.nil n0
  have go0 : ∀ t, Steps p.tables e below (s₁.setTop (mkF m 0 #[.val (.int p1)] [])) t → Steps p.tables e below (s₁.setTop (entryFrame m #[(.int p1)] 1)) t := fun t k => castTop (efK m p1) k
  obtain ⟨T101, X101, e101, st101⟩ := getS2 X0 hx hZ hown (host := "") (Or.inl (hw _ (List.mem_of_getElem? (i := 116) rfl))) Via.refl e0 S (g := (mkF m 149 #[.val (.int p1)] [])) rfl (hb hby dK_149)
  obtain ⟨fs, hr, hrun, hended, hW, hsame⟩ := X101.leave (v := some (.ref w)) (fun h => by rw [Bd.returns] at h; cases h)
  refine ⟨_, _, go0 _ ?_, hrun, hended, _, _, rfl, ?_, ⟨_, rfl⟩, hW, hsame.mono (by decide) (by decide)⟩
  · show Steps p.tables e below (s₁.setTop (mkF m 0 #[.val (.int p1)] [])) _
    refine XS.iloadN X0.here hx rfl (hb hby dK_0) rfl ?_
    show Steps p.tables e below (s₁.setTop (mkF m 1 #[.val (.int p1)] [(.int p1)])) _
    refine XS.ifYes X0.here hx rfl (pc0 := 1) (pc' := 8) rfl (hb hby dK_1) rfl ((if0 _ _).trans (feq (z0 : ¬ (p1 = (0 : Int32)))).2) (by decide) (by decide) ?_
    show Steps p.tables e below (s₁.setTop (mkF m 8 #[.val (.int p1)] [])) _
    refine XS.iloadN X0.here hx rfl (hb hby dK_8) rfl ?_
    show Steps p.tables e below (s₁.setTop (mkF m 9 #[.val (.int p1)] [(.int p1)])) _
    refine XS.iconst X0.here hx rfl (hb hby dK_9) ?_
    show Steps p.tables e below (s₁.setTop (mkF m 10 #[.val (.int p1)] [(.int (1 : Int32)), (.int p1)])) _
    refine XS.icmpYes X0.here hx rfl (pc0 := 10) (pc' := 17) rfl (hb hby dK_10) rfl (feq (z1 : ¬ (p1 = (1 : Int32)))).2 (by decide) (by decide) ?_
    show Steps p.tables e below (s₁.setTop (mkF m 17 #[.val (.int p1)] [])) _
    refine XS.iloadN X0.here hx rfl (hb hby dK_17) rfl ?_
    show Steps p.tables e below (s₁.setTop (mkF m 18 #[.val (.int p1)] [(.int p1)])) _
    refine XS.iconst X0.here hx rfl (hb hby dK_18) ?_
    show Steps p.tables e below (s₁.setTop (mkF m 19 #[.val (.int p1)] [(.int (2 : Int32)), (.int p1)])) _
    refine XS.icmpYes X0.here hx rfl (pc0 := 19) (pc' := 26) rfl (hb hby dK_19) rfl (feq (z2 : ¬ (p1 = (2 : Int32)))).2 (by decide) (by decide) ?_
    show Steps p.tables e below (s₁.setTop (mkF m 26 #[.val (.int p1)] [])) _
    refine XS.iloadN X0.here hx rfl (hb hby dK_26) rfl ?_
    show Steps p.tables e below (s₁.setTop (mkF m 27 #[.val (.int p1)] [(.int p1)])) _
    refine XS.iconst X0.here hx rfl (hb hby dK_27) ?_
    show Steps p.tables e below (s₁.setTop (mkF m 28 #[.val (.int p1)] [(.int (3 : Int32)), (.int p1)])) _
    refine XS.icmpYes X0.here hx rfl (pc0 := 28) (pc' := 35) rfl (hb hby dK_28) rfl (feq (z3 : ¬ (p1 = (3 : Int32)))).2 (by decide) (by decide) ?_
    show Steps p.tables e below (s₁.setTop (mkF m 35 #[.val (.int p1)] [])) _
    refine XS.iloadN X0.here hx rfl (hb hby dK_35) rfl ?_
    show Steps p.tables e below (s₁.setTop (mkF m 36 #[.val (.int p1)] [(.int p1)])) _
    refine XS.iconst X0.here hx rfl (hb hby dK_36) ?_
    show Steps p.tables e below (s₁.setTop (mkF m 37 #[.val (.int p1)] [(.int (4 : Int32)), (.int p1)])) _
    refine XS.icmpYes X0.here hx rfl (pc0 := 37) (pc' := 44) rfl (hb hby dK_37) rfl (feq (z4 : ¬ (p1 = (4 : Int32)))).2 (by decide) (by decide) ?_
    show Steps p.tables e below (s₁.setTop (mkF m 44 #[.val (.int p1)] [])) _
    refine XS.iloadN X0.here hx rfl (hb hby dK_44) rfl ?_
    show Steps p.tables e below (s₁.setTop (mkF m 45 #[.val (.int p1)] [(.int p1)])) _
    refine XS.iconst X0.here hx rfl (hb hby dK_45) ?_
    show Steps p.tables e below (s₁.setTop (mkF m 46 #[.val (.int p1)] [(.int (5 : Int32)), (.int p1)])) _
    refine XS.icmpYes X0.here hx rfl (pc0 := 46) (pc' := 53) rfl (hb hby dK_46) rfl (feq (z5 : ¬ (p1 = (5 : Int32)))).2 (by decide) (by decide) ?_
    show Steps p.tables e below (s₁.setTop (mkF m 53 #[.val (.int p1)] [])) _
    refine XS.iloadN X0.here hx rfl (hb hby dK_53) rfl ?_
    show Steps p.tables e below (s₁.setTop (mkF m 54 #[.val (.int p1)] [(.int p1)])) _
    refine XS.bipush X0.here hx rfl (hb hby dK_54) ?_
    show Steps p.tables e below (s₁.setTop (mkF m 56 #[.val (.int p1)] [(.int (6 : Int32)), (.int p1)])) _
    refine XS.icmpYes X0.here hx rfl (pc0 := 56) (pc' := 63) rfl (hb hby dK_56) rfl (feq (z6 : ¬ (p1 = (6 : Int32)))).2 (by decide) (by decide) ?_
    show Steps p.tables e below (s₁.setTop (mkF m 63 #[.val (.int p1)] [])) _
    refine XS.iloadN X0.here hx rfl (hb hby dK_63) rfl ?_
    show Steps p.tables e below (s₁.setTop (mkF m 64 #[.val (.int p1)] [(.int p1)])) _
    refine XS.bipush X0.here hx rfl (hb hby dK_64) ?_
    show Steps p.tables e below (s₁.setTop (mkF m 66 #[.val (.int p1)] [(.int (7 : Int32)), (.int p1)])) _
    refine XS.icmpYes X0.here hx rfl (pc0 := 66) (pc' := 73) rfl (hb hby dK_66) rfl (feq (z7 : ¬ (p1 = (7 : Int32)))).2 (by decide) (by decide) ?_
    show Steps p.tables e below (s₁.setTop (mkF m 73 #[.val (.int p1)] [])) _
    refine XS.iloadN X0.here hx rfl (hb hby dK_73) rfl ?_
    show Steps p.tables e below (s₁.setTop (mkF m 74 #[.val (.int p1)] [(.int p1)])) _
    refine XS.bipush X0.here hx rfl (hb hby dK_74) ?_
    show Steps p.tables e below (s₁.setTop (mkF m 76 #[.val (.int p1)] [(.int (8 : Int32)), (.int p1)])) _
    refine XS.icmpYes X0.here hx rfl (pc0 := 76) (pc' := 83) rfl (hb hby dK_76) rfl (feq (z8 : ¬ (p1 = (8 : Int32)))).2 (by decide) (by decide) ?_
    show Steps p.tables e below (s₁.setTop (mkF m 83 #[.val (.int p1)] [])) _
    refine XS.iloadN X0.here hx rfl (hb hby dK_83) rfl ?_
    show Steps p.tables e below (s₁.setTop (mkF m 84 #[.val (.int p1)] [(.int p1)])) _
    refine XS.bipush X0.here hx rfl (hb hby dK_84) ?_
    show Steps p.tables e below (s₁.setTop (mkF m 86 #[.val (.int p1)] [(.int (9 : Int32)), (.int p1)])) _
    refine XS.icmpYes X0.here hx rfl (pc0 := 86) (pc' := 93) rfl (hb hby dK_86) rfl (feq (z9 : ¬ (p1 = (9 : Int32)))).2 (by decide) (by decide) ?_
    show Steps p.tables e below (s₁.setTop (mkF m 93 #[.val (.int p1)] [])) _
    refine XS.iloadN X0.here hx rfl (hb hby dK_93) rfl ?_
    show Steps p.tables e below (s₁.setTop (mkF m 94 #[.val (.int p1)] [(.int p1)])) _
    refine XS.bipush X0.here hx rfl (hb hby dK_94) ?_
    show Steps p.tables e below (s₁.setTop (mkF m 96 #[.val (.int p1)] [(.int (10 : Int32)), (.int p1)])) _
    refine XS.icmpYes X0.here hx rfl (pc0 := 96) (pc' := 103) rfl (hb hby dK_96) rfl (feq (z10 : ¬ (p1 = (10 : Int32)))).2 (by decide) (by decide) ?_
    show Steps p.tables e below (s₁.setTop (mkF m 103 #[.val (.int p1)] [])) _
    refine XS.iloadN X0.here hx rfl (hb hby dK_103) rfl ?_
    show Steps p.tables e below (s₁.setTop (mkF m 104 #[.val (.int p1)] [(.int p1)])) _
    refine XS.bipush X0.here hx rfl (hb hby dK_104) ?_
    show Steps p.tables e below (s₁.setTop (mkF m 106 #[.val (.int p1)] [(.int (11 : Int32)), (.int p1)])) _
    refine XS.icmpYes X0.here hx rfl (pc0 := 106) (pc' := 113) rfl (hb hby dK_106) rfl (feq (z11 : ¬ (p1 = (11 : Int32)))).2 (by decide) (by decide) ?_
    show Steps p.tables e below (s₁.setTop (mkF m 113 #[.val (.int p1)] [])) _
    refine XS.iloadN X0.here hx rfl (hb hby dK_113) rfl ?_
    show Steps p.tables e below (s₁.setTop (mkF m 114 #[.val (.int p1)] [(.int p1)])) _
    refine XS.bipush X0.here hx rfl (hb hby dK_114) ?_
    show Steps p.tables e below (s₁.setTop (mkF m 116 #[.val (.int p1)] [(.int (12 : Int32)), (.int p1)])) _
    refine XS.icmpYes X0.here hx rfl (pc0 := 116) (pc' := 123) rfl (hb hby dK_116) rfl (feq (z12 : ¬ (p1 = (12 : Int32)))).2 (by decide) (by decide) ?_
    show Steps p.tables e below (s₁.setTop (mkF m 123 #[.val (.int p1)] [])) _
    refine XS.iloadN X0.here hx rfl (hb hby dK_123) rfl ?_
    show Steps p.tables e below (s₁.setTop (mkF m 124 #[.val (.int p1)] [(.int p1)])) _
    refine XS.bipush X0.here hx rfl (hb hby dK_124) ?_
    show Steps p.tables e below (s₁.setTop (mkF m 126 #[.val (.int p1)] [(.int (13 : Int32)), (.int p1)])) _
    refine XS.icmpYes X0.here hx rfl (pc0 := 126) (pc' := 133) rfl (hb hby dK_126) rfl (feq (z13 : ¬ (p1 = (13 : Int32)))).2 (by decide) (by decide) ?_
    show Steps p.tables e below (s₁.setTop (mkF m 133 #[.val (.int p1)] [])) _
    refine XS.iloadN X0.here hx rfl (hb hby dK_133) rfl ?_
    show Steps p.tables e below (s₁.setTop (mkF m 134 #[.val (.int p1)] [(.int p1)])) _
    refine XS.bipush X0.here hx rfl (hb hby dK_134) ?_
    show Steps p.tables e below (s₁.setTop (mkF m 136 #[.val (.int p1)] [(.int (14 : Int32)), (.int p1)])) _
    refine XS.icmpYes X0.here hx rfl (pc0 := 136) (pc' := 143) rfl (hb hby dK_136) rfl (feq (z14 : ¬ (p1 = (14 : Int32)))).2 (by decide) (by decide) ?_
    show Steps p.tables e below (s₁.setTop (mkF m 143 #[.val (.int p1)] [])) _
    refine XS.iloadN X0.here hx rfl (hb hby dK_143) rfl ?_
    show Steps p.tables e below (s₁.setTop (mkF m 144 #[.val (.int p1)] [(.int p1)])) _
    refine XS.bipush X0.here hx rfl (hb hby dK_144) ?_
    show Steps p.tables e below (s₁.setTop (mkF m 146 #[.val (.int p1)] [(.int (15 : Int32)), (.int p1)])) _
    refine XS.icmpNo X0.here hx rfl (hb hby dK_146) rfl (teq (y : p1 = (15 : Int32))).2 ?_
    show Steps p.tables e below (s₁.setTop (mkF m 149 #[.val (.int p1)] [])) _
    refine st101 _ ?_
    show Steps p.tables e below (T101.setTop (mkF m 152 #[.val (.int p1)] [(.ref w)])) _
    jvm_step X101.here [X101.here.top, hx, (hb hby dK_152), X101.method', Bd.returns, Value.isRef, FieldType.isReference]
    first | (intro acts; rw [hr _ acts rfl rfl rfl]) | rw [hr _ _ rfl rfl rfl]
    exact Steps.refl _
  · show QK w h0 n0 _ T101.heap _
    rw [e101]
    exact ⟨rfl, N0, rfl⟩
set_option maxRecDepth 65536 in
set_option maxHeartbeats 40000000 in
theorem rmK_16 (l : Launch) (Z : State) (a0 : Array Value) (hw : ∀ d ∈ tables_1, d.before a0 Z = true) (ws : List Jvm.Cond) (p1 : Int32) (w : Addr) (h0 : Heap) (n0 : Nat) (S : Sta Z h0 "com/example/tramway/tramway/idl/Token$Kind" "END_OF_INPUT" "Lcom/example/tramway/tramway/idl/Token$Kind;" (.ref w)) (z0 : ¬ (p1 = (0 : Int32))) (z1 : ¬ (p1 = (1 : Int32))) (z2 : ¬ (p1 = (2 : Int32))) (z3 : ¬ (p1 = (3 : Int32))) (z4 : ¬ (p1 = (4 : Int32))) (z5 : ¬ (p1 = (5 : Int32))) (z6 : ¬ (p1 = (6 : Int32))) (z7 : ¬ (p1 = (7 : Int32))) (z8 : ¬ (p1 = (8 : Int32))) (z9 : ¬ (p1 = (9 : Int32))) (z10 : ¬ (p1 = (10 : Int32))) (z11 : ¬ (p1 = (11 : Int32))) (z12 : ¬ (p1 = (12 : Int32))) (z13 : ¬ (p1 = (13 : Int32))) (z14 : ¬ (p1 = (14 : Int32))) (z15 : ¬ (p1 = (15 : Int32))) :
    MetFree l (⟨"com/example/tramway/tramway/idl/TokenIsPinLaw", "kind", "(I)Lcom/example/tramway/tramway/idl/Token$Kind;"⟩ : MethodName) (head1 (Jvm.Cond.code (⟨"com/example/tramway/tramway/idl/TokenIsPinLaw", "kind", "(I)Lcom/example/tramway/tramway/idl/Token$Kind;"⟩ : MethodName) method_2_code 1 (some (.object "com/example/tramway/tramway/idl/Token$Kind")) :: ws) ({ frames := 0, cells := 0, slots := 0, locals := 0 } : Room)) (fun a U => a = #[(.int p1)] ∧ Z.Warmed39 U.vm ∧ U.heap = h0) (fun _ _ _ _ _ => True) (fun _ U o U' => ∃ v L, o = .returned v ∧ QK w h0 n0 v U'.heap L ∧ FrameEnd U o U' L ({ frames := 0, cells := 0, slots := 0, locals := 0 } : Room).cells ({ frames := 0, cells := 0, slots := 0, locals := 0 } : Room).slots) := by
  refine MetFree.of_bodySF (plainFor_of_name pnL) hisR ?_
  intro p e s m args below meth c s₁ Bd hml0 hP hK
  obtain ⟨rfl, hZ, hh⟩ := hP
  have hx := Bd.exec
  have hby := Bd.bytes
  have hml : c.maxLocals = 1 := hml0
  have hown : s.vm.findClass "com/example/tramway/tramway/idl/TokenIsPinLaw" = some m.cls := findClass_of_methodNamed Bd.named
  have hnm := (name_of_methodNamed Bd.named Bd.method).1
  have X0 : Stand p l e ({ frames := 0, cells := 0, slots := 0, locals := 0 } : Room) s m #[(.int p1)] below meth c s₁ [] 0 0 := Stand.of_body Bd
  have e0 : s₁.heap = h0 := by rw [← hh, Bd.state]; rfl
  have N0 := Fr.nil n0
  have go0 : ∀ t, Steps p.tables e below (s₁.setTop (mkF m 0 #[.val (.int p1)] [])) t → Steps p.tables e below (s₁.setTop (entryFrame m #[(.int p1)] 1)) t := fun t k => castTop (efK m p1) k
  obtain ⟨T101, X101, e101, st101⟩ := getS2 X0 hx hZ hown (host := "") (Or.inl (hw _ (List.mem_of_getElem? (i := 104) rfl))) Via.refl e0 S (g := (mkF m 153 #[.val (.int p1)] [])) rfl (hb hby dK_153)
  obtain ⟨fs, hr, hrun, hended, hW, hsame⟩ := X101.leave (v := some (.ref w)) (fun h => by rw [Bd.returns] at h; cases h)
  refine ⟨_, _, go0 _ ?_, hrun, hended, _, _, rfl, ?_, ⟨_, rfl⟩, hW, hsame.mono (by decide) (by decide)⟩
  · show Steps p.tables e below (s₁.setTop (mkF m 0 #[.val (.int p1)] [])) _
    refine XS.iloadN X0.here hx rfl (hb hby dK_0) rfl ?_
    show Steps p.tables e below (s₁.setTop (mkF m 1 #[.val (.int p1)] [(.int p1)])) _
    refine XS.ifYes X0.here hx rfl (pc0 := 1) (pc' := 8) rfl (hb hby dK_1) rfl ((if0 _ _).trans (feq (z0 : ¬ (p1 = (0 : Int32)))).2) (by decide) (by decide) ?_
    show Steps p.tables e below (s₁.setTop (mkF m 8 #[.val (.int p1)] [])) _
    refine XS.iloadN X0.here hx rfl (hb hby dK_8) rfl ?_
    show Steps p.tables e below (s₁.setTop (mkF m 9 #[.val (.int p1)] [(.int p1)])) _
    refine XS.iconst X0.here hx rfl (hb hby dK_9) ?_
    show Steps p.tables e below (s₁.setTop (mkF m 10 #[.val (.int p1)] [(.int (1 : Int32)), (.int p1)])) _
    refine XS.icmpYes X0.here hx rfl (pc0 := 10) (pc' := 17) rfl (hb hby dK_10) rfl (feq (z1 : ¬ (p1 = (1 : Int32)))).2 (by decide) (by decide) ?_
    show Steps p.tables e below (s₁.setTop (mkF m 17 #[.val (.int p1)] [])) _
    refine XS.iloadN X0.here hx rfl (hb hby dK_17) rfl ?_
    show Steps p.tables e below (s₁.setTop (mkF m 18 #[.val (.int p1)] [(.int p1)])) _
    refine XS.iconst X0.here hx rfl (hb hby dK_18) ?_
    show Steps p.tables e below (s₁.setTop (mkF m 19 #[.val (.int p1)] [(.int (2 : Int32)), (.int p1)])) _
    refine XS.icmpYes X0.here hx rfl (pc0 := 19) (pc' := 26) rfl (hb hby dK_19) rfl (feq (z2 : ¬ (p1 = (2 : Int32)))).2 (by decide) (by decide) ?_
    show Steps p.tables e below (s₁.setTop (mkF m 26 #[.val (.int p1)] [])) _
    refine XS.iloadN X0.here hx rfl (hb hby dK_26) rfl ?_
    show Steps p.tables e below (s₁.setTop (mkF m 27 #[.val (.int p1)] [(.int p1)])) _
    refine XS.iconst X0.here hx rfl (hb hby dK_27) ?_
    show Steps p.tables e below (s₁.setTop (mkF m 28 #[.val (.int p1)] [(.int (3 : Int32)), (.int p1)])) _
    refine XS.icmpYes X0.here hx rfl (pc0 := 28) (pc' := 35) rfl (hb hby dK_28) rfl (feq (z3 : ¬ (p1 = (3 : Int32)))).2 (by decide) (by decide) ?_
    show Steps p.tables e below (s₁.setTop (mkF m 35 #[.val (.int p1)] [])) _
    refine XS.iloadN X0.here hx rfl (hb hby dK_35) rfl ?_
    show Steps p.tables e below (s₁.setTop (mkF m 36 #[.val (.int p1)] [(.int p1)])) _
    refine XS.iconst X0.here hx rfl (hb hby dK_36) ?_
    show Steps p.tables e below (s₁.setTop (mkF m 37 #[.val (.int p1)] [(.int (4 : Int32)), (.int p1)])) _
    refine XS.icmpYes X0.here hx rfl (pc0 := 37) (pc' := 44) rfl (hb hby dK_37) rfl (feq (z4 : ¬ (p1 = (4 : Int32)))).2 (by decide) (by decide) ?_
    show Steps p.tables e below (s₁.setTop (mkF m 44 #[.val (.int p1)] [])) _
    refine XS.iloadN X0.here hx rfl (hb hby dK_44) rfl ?_
    show Steps p.tables e below (s₁.setTop (mkF m 45 #[.val (.int p1)] [(.int p1)])) _
    refine XS.iconst X0.here hx rfl (hb hby dK_45) ?_
    show Steps p.tables e below (s₁.setTop (mkF m 46 #[.val (.int p1)] [(.int (5 : Int32)), (.int p1)])) _
    refine XS.icmpYes X0.here hx rfl (pc0 := 46) (pc' := 53) rfl (hb hby dK_46) rfl (feq (z5 : ¬ (p1 = (5 : Int32)))).2 (by decide) (by decide) ?_
    show Steps p.tables e below (s₁.setTop (mkF m 53 #[.val (.int p1)] [])) _
    refine XS.iloadN X0.here hx rfl (hb hby dK_53) rfl ?_
    show Steps p.tables e below (s₁.setTop (mkF m 54 #[.val (.int p1)] [(.int p1)])) _
    refine XS.bipush X0.here hx rfl (hb hby dK_54) ?_
    show Steps p.tables e below (s₁.setTop (mkF m 56 #[.val (.int p1)] [(.int (6 : Int32)), (.int p1)])) _
    refine XS.icmpYes X0.here hx rfl (pc0 := 56) (pc' := 63) rfl (hb hby dK_56) rfl (feq (z6 : ¬ (p1 = (6 : Int32)))).2 (by decide) (by decide) ?_
    show Steps p.tables e below (s₁.setTop (mkF m 63 #[.val (.int p1)] [])) _
    refine XS.iloadN X0.here hx rfl (hb hby dK_63) rfl ?_
    show Steps p.tables e below (s₁.setTop (mkF m 64 #[.val (.int p1)] [(.int p1)])) _
    refine XS.bipush X0.here hx rfl (hb hby dK_64) ?_
    show Steps p.tables e below (s₁.setTop (mkF m 66 #[.val (.int p1)] [(.int (7 : Int32)), (.int p1)])) _
    refine XS.icmpYes X0.here hx rfl (pc0 := 66) (pc' := 73) rfl (hb hby dK_66) rfl (feq (z7 : ¬ (p1 = (7 : Int32)))).2 (by decide) (by decide) ?_
    show Steps p.tables e below (s₁.setTop (mkF m 73 #[.val (.int p1)] [])) _
    refine XS.iloadN X0.here hx rfl (hb hby dK_73) rfl ?_
    show Steps p.tables e below (s₁.setTop (mkF m 74 #[.val (.int p1)] [(.int p1)])) _
    refine XS.bipush X0.here hx rfl (hb hby dK_74) ?_
    show Steps p.tables e below (s₁.setTop (mkF m 76 #[.val (.int p1)] [(.int (8 : Int32)), (.int p1)])) _
    refine XS.icmpYes X0.here hx rfl (pc0 := 76) (pc' := 83) rfl (hb hby dK_76) rfl (feq (z8 : ¬ (p1 = (8 : Int32)))).2 (by decide) (by decide) ?_
    show Steps p.tables e below (s₁.setTop (mkF m 83 #[.val (.int p1)] [])) _
    refine XS.iloadN X0.here hx rfl (hb hby dK_83) rfl ?_
    show Steps p.tables e below (s₁.setTop (mkF m 84 #[.val (.int p1)] [(.int p1)])) _
    refine XS.bipush X0.here hx rfl (hb hby dK_84) ?_
    show Steps p.tables e below (s₁.setTop (mkF m 86 #[.val (.int p1)] [(.int (9 : Int32)), (.int p1)])) _
    refine XS.icmpYes X0.here hx rfl (pc0 := 86) (pc' := 93) rfl (hb hby dK_86) rfl (feq (z9 : ¬ (p1 = (9 : Int32)))).2 (by decide) (by decide) ?_
    show Steps p.tables e below (s₁.setTop (mkF m 93 #[.val (.int p1)] [])) _
    refine XS.iloadN X0.here hx rfl (hb hby dK_93) rfl ?_
    show Steps p.tables e below (s₁.setTop (mkF m 94 #[.val (.int p1)] [(.int p1)])) _
    refine XS.bipush X0.here hx rfl (hb hby dK_94) ?_
    show Steps p.tables e below (s₁.setTop (mkF m 96 #[.val (.int p1)] [(.int (10 : Int32)), (.int p1)])) _
    refine XS.icmpYes X0.here hx rfl (pc0 := 96) (pc' := 103) rfl (hb hby dK_96) rfl (feq (z10 : ¬ (p1 = (10 : Int32)))).2 (by decide) (by decide) ?_
    show Steps p.tables e below (s₁.setTop (mkF m 103 #[.val (.int p1)] [])) _
    refine XS.iloadN X0.here hx rfl (hb hby dK_103) rfl ?_
    show Steps p.tables e below (s₁.setTop (mkF m 104 #[.val (.int p1)] [(.int p1)])) _
    refine XS.bipush X0.here hx rfl (hb hby dK_104) ?_
    show Steps p.tables e below (s₁.setTop (mkF m 106 #[.val (.int p1)] [(.int (11 : Int32)), (.int p1)])) _
    refine XS.icmpYes X0.here hx rfl (pc0 := 106) (pc' := 113) rfl (hb hby dK_106) rfl (feq (z11 : ¬ (p1 = (11 : Int32)))).2 (by decide) (by decide) ?_
    show Steps p.tables e below (s₁.setTop (mkF m 113 #[.val (.int p1)] [])) _
    refine XS.iloadN X0.here hx rfl (hb hby dK_113) rfl ?_
    show Steps p.tables e below (s₁.setTop (mkF m 114 #[.val (.int p1)] [(.int p1)])) _
    refine XS.bipush X0.here hx rfl (hb hby dK_114) ?_
    show Steps p.tables e below (s₁.setTop (mkF m 116 #[.val (.int p1)] [(.int (12 : Int32)), (.int p1)])) _
    refine XS.icmpYes X0.here hx rfl (pc0 := 116) (pc' := 123) rfl (hb hby dK_116) rfl (feq (z12 : ¬ (p1 = (12 : Int32)))).2 (by decide) (by decide) ?_
    show Steps p.tables e below (s₁.setTop (mkF m 123 #[.val (.int p1)] [])) _
    refine XS.iloadN X0.here hx rfl (hb hby dK_123) rfl ?_
    show Steps p.tables e below (s₁.setTop (mkF m 124 #[.val (.int p1)] [(.int p1)])) _
    refine XS.bipush X0.here hx rfl (hb hby dK_124) ?_
    show Steps p.tables e below (s₁.setTop (mkF m 126 #[.val (.int p1)] [(.int (13 : Int32)), (.int p1)])) _
    refine XS.icmpYes X0.here hx rfl (pc0 := 126) (pc' := 133) rfl (hb hby dK_126) rfl (feq (z13 : ¬ (p1 = (13 : Int32)))).2 (by decide) (by decide) ?_
    show Steps p.tables e below (s₁.setTop (mkF m 133 #[.val (.int p1)] [])) _
    refine XS.iloadN X0.here hx rfl (hb hby dK_133) rfl ?_
    show Steps p.tables e below (s₁.setTop (mkF m 134 #[.val (.int p1)] [(.int p1)])) _
    refine XS.bipush X0.here hx rfl (hb hby dK_134) ?_
    show Steps p.tables e below (s₁.setTop (mkF m 136 #[.val (.int p1)] [(.int (14 : Int32)), (.int p1)])) _
    refine XS.icmpYes X0.here hx rfl (pc0 := 136) (pc' := 143) rfl (hb hby dK_136) rfl (feq (z14 : ¬ (p1 = (14 : Int32)))).2 (by decide) (by decide) ?_
    show Steps p.tables e below (s₁.setTop (mkF m 143 #[.val (.int p1)] [])) _
    refine XS.iloadN X0.here hx rfl (hb hby dK_143) rfl ?_
    show Steps p.tables e below (s₁.setTop (mkF m 144 #[.val (.int p1)] [(.int p1)])) _
    refine XS.bipush X0.here hx rfl (hb hby dK_144) ?_
    show Steps p.tables e below (s₁.setTop (mkF m 146 #[.val (.int p1)] [(.int (15 : Int32)), (.int p1)])) _
    refine XS.icmpYes X0.here hx rfl (pc0 := 146) (pc' := 153) rfl (hb hby dK_146) rfl (feq (z15 : ¬ (p1 = (15 : Int32)))).2 (by decide) (by decide) ?_
    show Steps p.tables e below (s₁.setTop (mkF m 153 #[.val (.int p1)] [])) _
    refine st101 _ ?_
    show Steps p.tables e below (T101.setTop (mkF m 156 #[.val (.int p1)] [(.ref w)])) _
    jvm_step X101.here [X101.here.top, hx, (hb hby dK_156), X101.method', Bd.returns, Value.isRef, FieldType.isReference]
    first | (intro acts; rw [hr _ acts rfl rfl rfl]) | rw [hr _ _ rfl rfl rfl]
    exact Steps.refl _
  · show QK w h0 n0 _ T101.heap _
    rw [e101]
    exact ⟨rfl, N0, rfl⟩
theorem rmK (l : Launch) (Z : State) (a0 : Array Value) (hw : ∀ d ∈ tables_1, d.before a0 Z = true) (ws : List Jvm.Cond) (p1 : Int32) (w0 w1 w2 w3 w4 w5 w6 w7 w8 w9 w10 w11 w12 w13 w14 w15 w16 : Addr) (h0 : Heap) (n0 : Nat) (S0 : Sta Z h0 "com/example/tramway/tramway/idl/Token$Kind" "IDENTIFIER" "Lcom/example/tramway/tramway/idl/Token$Kind;" (.ref w0)) (S1 : Sta Z h0 "com/example/tramway/tramway/idl/Token$Kind" "INTEGER" "Lcom/example/tramway/tramway/idl/Token$Kind;" (.ref w1)) (S2 : Sta Z h0 "com/example/tramway/tramway/idl/Token$Kind" "FLOATING" "Lcom/example/tramway/tramway/idl/Token$Kind;" (.ref w2)) (S3 : Sta Z h0 "com/example/tramway/tramway/idl/Token$Kind" "CHARACTER" "Lcom/example/tramway/tramway/idl/Token$Kind;" (.ref w3)) (S4 : Sta Z h0 "com/example/tramway/tramway/idl/Token$Kind" "WIDE_CHARACTER" "Lcom/example/tramway/tramway/idl/Token$Kind;" (.ref w4)) (S5 : Sta Z h0 "com/example/tramway/tramway/idl/Token$Kind" "STRING" "Lcom/example/tramway/tramway/idl/Token$Kind;" (.ref w5)) (S6 : Sta Z h0 "com/example/tramway/tramway/idl/Token$Kind" "WIDE_STRING" "Lcom/example/tramway/tramway/idl/Token$Kind;" (.ref w6)) (S7 : Sta Z h0 "com/example/tramway/tramway/idl/Token$Kind" "PUNCTUATOR" "Lcom/example/tramway/tramway/idl/Token$Kind;" (.ref w7)) (S8 : Sta Z h0 "com/example/tramway/tramway/idl/Token$Kind" "NEWLINE" "Lcom/example/tramway/tramway/idl/Token$Kind;" (.ref w8)) (S9 : Sta Z h0 "com/example/tramway/tramway/idl/Token$Kind" "ERROR" "Lcom/example/tramway/tramway/idl/Token$Kind;" (.ref w9)) (S10 : Sta Z h0 "com/example/tramway/tramway/idl/Token$Kind" "FILE_START" "Lcom/example/tramway/tramway/idl/Token$Kind;" (.ref w10)) (S11 : Sta Z h0 "com/example/tramway/tramway/idl/Token$Kind" "FILE_END" "Lcom/example/tramway/tramway/idl/Token$Kind;" (.ref w11)) (S12 : Sta Z h0 "com/example/tramway/tramway/idl/Token$Kind" "PREFIX" "Lcom/example/tramway/tramway/idl/Token$Kind;" (.ref w12)) (S13 : Sta Z h0 "com/example/tramway/tramway/idl/Token$Kind" "PRAGMA_ID" "Lcom/example/tramway/tramway/idl/Token$Kind;" (.ref w13)) (S14 : Sta Z h0 "com/example/tramway/tramway/idl/Token$Kind" "PRAGMA_VERSION" "Lcom/example/tramway/tramway/idl/Token$Kind;" (.ref w14)) (S15 : Sta Z h0 "com/example/tramway/tramway/idl/Token$Kind" "PRAGMA_END" "Lcom/example/tramway/tramway/idl/Token$Kind;" (.ref w15)) (S16 : Sta Z h0 "com/example/tramway/tramway/idl/Token$Kind" "END_OF_INPUT" "Lcom/example/tramway/tramway/idl/Token$Kind;" (.ref w16)) :
    MetFree l (⟨"com/example/tramway/tramway/idl/TokenIsPinLaw", "kind", "(I)Lcom/example/tramway/tramway/idl/Token$Kind;"⟩ : MethodName) (head1 (Jvm.Cond.code (⟨"com/example/tramway/tramway/idl/TokenIsPinLaw", "kind", "(I)Lcom/example/tramway/tramway/idl/Token$Kind;"⟩ : MethodName) method_2_code 1 (some (.object "com/example/tramway/tramway/idl/Token$Kind")) :: ws) ({ frames := 0, cells := 0, slots := 0, locals := 0 } : Room)) (fun a U => a = #[(.int p1)] ∧ Z.Warmed39 U.vm ∧ U.heap = h0) (fun _ _ _ _ _ => True) (fun _ U o U' => ∃ v L, o = .returned v ∧ QK (own_kd p1 w0 w1 w2 w3 w4 w5 w6 w7 w8 w9 w10 w11 w12 w13 w14 w15 w16) h0 n0 v U'.heap L ∧ FrameEnd U o U' L ({ frames := 0, cells := 0, slots := 0, locals := 0 } : Room).cells ({ frames := 0, cells := 0, slots := 0, locals := 0 } : Room).slots) := by
  by_cases q0 : p1 = (0 : Int32)
  · have e : own_kd p1 w0 w1 w2 w3 w4 w5 w6 w7 w8 w9 w10 w11 w12 w13 w14 w15 w16 = w0 := by unfold own_kd; rw [if_pos q0]
    rw [e]; exact rmK_0 l Z a0 hw ws p1 w0 h0 n0 S0  q0
  by_cases q1 : p1 = (1 : Int32)
  · have e : own_kd p1 w0 w1 w2 w3 w4 w5 w6 w7 w8 w9 w10 w11 w12 w13 w14 w15 w16 = w1 := by unfold own_kd; rw [if_neg q0, if_pos q1]
    rw [e]; exact rmK_1 l Z a0 hw ws p1 w1 h0 n0 S1 q0 q1
  by_cases q2 : p1 = (2 : Int32)
  · have e : own_kd p1 w0 w1 w2 w3 w4 w5 w6 w7 w8 w9 w10 w11 w12 w13 w14 w15 w16 = w2 := by unfold own_kd; rw [if_neg q0, if_neg q1, if_pos q2]
    rw [e]; exact rmK_2 l Z a0 hw ws p1 w2 h0 n0 S2 q0 q1 q2
  by_cases q3 : p1 = (3 : Int32)
  · have e : own_kd p1 w0 w1 w2 w3 w4 w5 w6 w7 w8 w9 w10 w11 w12 w13 w14 w15 w16 = w3 := by unfold own_kd; rw [if_neg q0, if_neg q1, if_neg q2, if_pos q3]
    rw [e]; exact rmK_3 l Z a0 hw ws p1 w3 h0 n0 S3 q0 q1 q2 q3
  by_cases q4 : p1 = (4 : Int32)
  · have e : own_kd p1 w0 w1 w2 w3 w4 w5 w6 w7 w8 w9 w10 w11 w12 w13 w14 w15 w16 = w4 := by unfold own_kd; rw [if_neg q0, if_neg q1, if_neg q2, if_neg q3, if_pos q4]
    rw [e]; exact rmK_4 l Z a0 hw ws p1 w4 h0 n0 S4 q0 q1 q2 q3 q4
  by_cases q5 : p1 = (5 : Int32)
  · have e : own_kd p1 w0 w1 w2 w3 w4 w5 w6 w7 w8 w9 w10 w11 w12 w13 w14 w15 w16 = w5 := by unfold own_kd; rw [if_neg q0, if_neg q1, if_neg q2, if_neg q3, if_neg q4, if_pos q5]
    rw [e]; exact rmK_5 l Z a0 hw ws p1 w5 h0 n0 S5 q0 q1 q2 q3 q4 q5
  by_cases q6 : p1 = (6 : Int32)
  · have e : own_kd p1 w0 w1 w2 w3 w4 w5 w6 w7 w8 w9 w10 w11 w12 w13 w14 w15 w16 = w6 := by unfold own_kd; rw [if_neg q0, if_neg q1, if_neg q2, if_neg q3, if_neg q4, if_neg q5, if_pos q6]
    rw [e]; exact rmK_6 l Z a0 hw ws p1 w6 h0 n0 S6 q0 q1 q2 q3 q4 q5 q6
  by_cases q7 : p1 = (7 : Int32)
  · have e : own_kd p1 w0 w1 w2 w3 w4 w5 w6 w7 w8 w9 w10 w11 w12 w13 w14 w15 w16 = w7 := by unfold own_kd; rw [if_neg q0, if_neg q1, if_neg q2, if_neg q3, if_neg q4, if_neg q5, if_neg q6, if_pos q7]
    rw [e]; exact rmK_7 l Z a0 hw ws p1 w7 h0 n0 S7 q0 q1 q2 q3 q4 q5 q6 q7
  by_cases q8 : p1 = (8 : Int32)
  · have e : own_kd p1 w0 w1 w2 w3 w4 w5 w6 w7 w8 w9 w10 w11 w12 w13 w14 w15 w16 = w8 := by unfold own_kd; rw [if_neg q0, if_neg q1, if_neg q2, if_neg q3, if_neg q4, if_neg q5, if_neg q6, if_neg q7, if_pos q8]
    rw [e]; exact rmK_8 l Z a0 hw ws p1 w8 h0 n0 S8 q0 q1 q2 q3 q4 q5 q6 q7 q8
  by_cases q9 : p1 = (9 : Int32)
  · have e : own_kd p1 w0 w1 w2 w3 w4 w5 w6 w7 w8 w9 w10 w11 w12 w13 w14 w15 w16 = w9 := by unfold own_kd; rw [if_neg q0, if_neg q1, if_neg q2, if_neg q3, if_neg q4, if_neg q5, if_neg q6, if_neg q7, if_neg q8, if_pos q9]
    rw [e]; exact rmK_9 l Z a0 hw ws p1 w9 h0 n0 S9 q0 q1 q2 q3 q4 q5 q6 q7 q8 q9
  by_cases q10 : p1 = (10 : Int32)
  · have e : own_kd p1 w0 w1 w2 w3 w4 w5 w6 w7 w8 w9 w10 w11 w12 w13 w14 w15 w16 = w10 := by unfold own_kd; rw [if_neg q0, if_neg q1, if_neg q2, if_neg q3, if_neg q4, if_neg q5, if_neg q6, if_neg q7, if_neg q8, if_neg q9, if_pos q10]
    rw [e]; exact rmK_10 l Z a0 hw ws p1 w10 h0 n0 S10 q0 q1 q2 q3 q4 q5 q6 q7 q8 q9 q10
  by_cases q11 : p1 = (11 : Int32)
  · have e : own_kd p1 w0 w1 w2 w3 w4 w5 w6 w7 w8 w9 w10 w11 w12 w13 w14 w15 w16 = w11 := by unfold own_kd; rw [if_neg q0, if_neg q1, if_neg q2, if_neg q3, if_neg q4, if_neg q5, if_neg q6, if_neg q7, if_neg q8, if_neg q9, if_neg q10, if_pos q11]
    rw [e]; exact rmK_11 l Z a0 hw ws p1 w11 h0 n0 S11 q0 q1 q2 q3 q4 q5 q6 q7 q8 q9 q10 q11
  by_cases q12 : p1 = (12 : Int32)
  · have e : own_kd p1 w0 w1 w2 w3 w4 w5 w6 w7 w8 w9 w10 w11 w12 w13 w14 w15 w16 = w12 := by unfold own_kd; rw [if_neg q0, if_neg q1, if_neg q2, if_neg q3, if_neg q4, if_neg q5, if_neg q6, if_neg q7, if_neg q8, if_neg q9, if_neg q10, if_neg q11, if_pos q12]
    rw [e]; exact rmK_12 l Z a0 hw ws p1 w12 h0 n0 S12 q0 q1 q2 q3 q4 q5 q6 q7 q8 q9 q10 q11 q12
  by_cases q13 : p1 = (13 : Int32)
  · have e : own_kd p1 w0 w1 w2 w3 w4 w5 w6 w7 w8 w9 w10 w11 w12 w13 w14 w15 w16 = w13 := by unfold own_kd; rw [if_neg q0, if_neg q1, if_neg q2, if_neg q3, if_neg q4, if_neg q5, if_neg q6, if_neg q7, if_neg q8, if_neg q9, if_neg q10, if_neg q11, if_neg q12, if_pos q13]
    rw [e]; exact rmK_13 l Z a0 hw ws p1 w13 h0 n0 S13 q0 q1 q2 q3 q4 q5 q6 q7 q8 q9 q10 q11 q12 q13
  by_cases q14 : p1 = (14 : Int32)
  · have e : own_kd p1 w0 w1 w2 w3 w4 w5 w6 w7 w8 w9 w10 w11 w12 w13 w14 w15 w16 = w14 := by unfold own_kd; rw [if_neg q0, if_neg q1, if_neg q2, if_neg q3, if_neg q4, if_neg q5, if_neg q6, if_neg q7, if_neg q8, if_neg q9, if_neg q10, if_neg q11, if_neg q12, if_neg q13, if_pos q14]
    rw [e]; exact rmK_14 l Z a0 hw ws p1 w14 h0 n0 S14 q0 q1 q2 q3 q4 q5 q6 q7 q8 q9 q10 q11 q12 q13 q14
  by_cases q15 : p1 = (15 : Int32)
  · have e : own_kd p1 w0 w1 w2 w3 w4 w5 w6 w7 w8 w9 w10 w11 w12 w13 w14 w15 w16 = w15 := by unfold own_kd; rw [if_neg q0, if_neg q1, if_neg q2, if_neg q3, if_neg q4, if_neg q5, if_neg q6, if_neg q7, if_neg q8, if_neg q9, if_neg q10, if_neg q11, if_neg q12, if_neg q13, if_neg q14, if_pos q15]
    rw [e]; exact rmK_15 l Z a0 hw ws p1 w15 h0 n0 S15 q0 q1 q2 q3 q4 q5 q6 q7 q8 q9 q10 q11 q12 q13 q14 q15
  have e : own_kd p1 w0 w1 w2 w3 w4 w5 w6 w7 w8 w9 w10 w11 w12 w13 w14 w15 w16 = w16 := by unfold own_kd; rw [if_neg q0, if_neg q1, if_neg q2, if_neg q3, if_neg q4, if_neg q5, if_neg q6, if_neg q7, if_neg q8, if_neg q9, if_neg q10, if_neg q11, if_neg q12, if_neg q13, if_neg q14, if_neg q15]
  rw [e]; exact rmK_16 l Z a0 hw ws p1 w16 h0 n0 S16 q0 q1 q2 q3 q4 q5 q6 q7 q8 q9 q10 q11 q12 q13 q14 q15
theorem own_kd_ord {Z : State} (i : Int32) (w0 w1 w2 w3 w4 w5 w6 w7 w8 w9 w10 w11 w12 w13 w14 w15 w16 : Addr) (h0 : 0 ≤ i.toInt) (h1 : i.toInt < 17) (F0 : Fld Z Z.heap w0 "java/lang/Enum" "ordinal" "I" (.int (0 : Int32))) (F1 : Fld Z Z.heap w1 "java/lang/Enum" "ordinal" "I" (.int (1 : Int32))) (F2 : Fld Z Z.heap w2 "java/lang/Enum" "ordinal" "I" (.int (2 : Int32))) (F3 : Fld Z Z.heap w3 "java/lang/Enum" "ordinal" "I" (.int (3 : Int32))) (F4 : Fld Z Z.heap w4 "java/lang/Enum" "ordinal" "I" (.int (4 : Int32))) (F5 : Fld Z Z.heap w5 "java/lang/Enum" "ordinal" "I" (.int (5 : Int32))) (F6 : Fld Z Z.heap w6 "java/lang/Enum" "ordinal" "I" (.int (6 : Int32))) (F7 : Fld Z Z.heap w7 "java/lang/Enum" "ordinal" "I" (.int (7 : Int32))) (F8 : Fld Z Z.heap w8 "java/lang/Enum" "ordinal" "I" (.int (8 : Int32))) (F9 : Fld Z Z.heap w9 "java/lang/Enum" "ordinal" "I" (.int (9 : Int32))) (F10 : Fld Z Z.heap w10 "java/lang/Enum" "ordinal" "I" (.int (10 : Int32))) (F11 : Fld Z Z.heap w11 "java/lang/Enum" "ordinal" "I" (.int (11 : Int32))) (F12 : Fld Z Z.heap w12 "java/lang/Enum" "ordinal" "I" (.int (12 : Int32))) (F13 : Fld Z Z.heap w13 "java/lang/Enum" "ordinal" "I" (.int (13 : Int32))) (F14 : Fld Z Z.heap w14 "java/lang/Enum" "ordinal" "I" (.int (14 : Int32))) (F15 : Fld Z Z.heap w15 "java/lang/Enum" "ordinal" "I" (.int (15 : Int32))) (F16 : Fld Z Z.heap w16 "java/lang/Enum" "ordinal" "I" (.int (16 : Int32))) : Fld Z Z.heap (own_kd i w0 w1 w2 w3 w4 w5 w6 w7 w8 w9 w10 w11 w12 w13 w14 w15 w16) "java/lang/Enum" "ordinal" "I" (.int i) := by
  by_cases q0 : i = (0 : Int32)
  · have e : own_kd i w0 w1 w2 w3 w4 w5 w6 w7 w8 w9 w10 w11 w12 w13 w14 w15 w16 = w0 := by unfold own_kd; rw [if_pos q0]
    rw [e, q0]; exact F0
  by_cases q1 : i = (1 : Int32)
  · have e : own_kd i w0 w1 w2 w3 w4 w5 w6 w7 w8 w9 w10 w11 w12 w13 w14 w15 w16 = w1 := by unfold own_kd; rw [if_neg q0, if_pos q1]
    rw [e, q1]; exact F1
  by_cases q2 : i = (2 : Int32)
  · have e : own_kd i w0 w1 w2 w3 w4 w5 w6 w7 w8 w9 w10 w11 w12 w13 w14 w15 w16 = w2 := by unfold own_kd; rw [if_neg q0, if_neg q1, if_pos q2]
    rw [e, q2]; exact F2
  by_cases q3 : i = (3 : Int32)
  · have e : own_kd i w0 w1 w2 w3 w4 w5 w6 w7 w8 w9 w10 w11 w12 w13 w14 w15 w16 = w3 := by unfold own_kd; rw [if_neg q0, if_neg q1, if_neg q2, if_pos q3]
    rw [e, q3]; exact F3
  by_cases q4 : i = (4 : Int32)
  · have e : own_kd i w0 w1 w2 w3 w4 w5 w6 w7 w8 w9 w10 w11 w12 w13 w14 w15 w16 = w4 := by unfold own_kd; rw [if_neg q0, if_neg q1, if_neg q2, if_neg q3, if_pos q4]
    rw [e, q4]; exact F4
  by_cases q5 : i = (5 : Int32)
  · have e : own_kd i w0 w1 w2 w3 w4 w5 w6 w7 w8 w9 w10 w11 w12 w13 w14 w15 w16 = w5 := by unfold own_kd; rw [if_neg q0, if_neg q1, if_neg q2, if_neg q3, if_neg q4, if_pos q5]
    rw [e, q5]; exact F5
  by_cases q6 : i = (6 : Int32)
  · have e : own_kd i w0 w1 w2 w3 w4 w5 w6 w7 w8 w9 w10 w11 w12 w13 w14 w15 w16 = w6 := by unfold own_kd; rw [if_neg q0, if_neg q1, if_neg q2, if_neg q3, if_neg q4, if_neg q5, if_pos q6]
    rw [e, q6]; exact F6
  by_cases q7 : i = (7 : Int32)
  · have e : own_kd i w0 w1 w2 w3 w4 w5 w6 w7 w8 w9 w10 w11 w12 w13 w14 w15 w16 = w7 := by unfold own_kd; rw [if_neg q0, if_neg q1, if_neg q2, if_neg q3, if_neg q4, if_neg q5, if_neg q6, if_pos q7]
    rw [e, q7]; exact F7
  by_cases q8 : i = (8 : Int32)
  · have e : own_kd i w0 w1 w2 w3 w4 w5 w6 w7 w8 w9 w10 w11 w12 w13 w14 w15 w16 = w8 := by unfold own_kd; rw [if_neg q0, if_neg q1, if_neg q2, if_neg q3, if_neg q4, if_neg q5, if_neg q6, if_neg q7, if_pos q8]
    rw [e, q8]; exact F8
  by_cases q9 : i = (9 : Int32)
  · have e : own_kd i w0 w1 w2 w3 w4 w5 w6 w7 w8 w9 w10 w11 w12 w13 w14 w15 w16 = w9 := by unfold own_kd; rw [if_neg q0, if_neg q1, if_neg q2, if_neg q3, if_neg q4, if_neg q5, if_neg q6, if_neg q7, if_neg q8, if_pos q9]
    rw [e, q9]; exact F9
  by_cases q10 : i = (10 : Int32)
  · have e : own_kd i w0 w1 w2 w3 w4 w5 w6 w7 w8 w9 w10 w11 w12 w13 w14 w15 w16 = w10 := by unfold own_kd; rw [if_neg q0, if_neg q1, if_neg q2, if_neg q3, if_neg q4, if_neg q5, if_neg q6, if_neg q7, if_neg q8, if_neg q9, if_pos q10]
    rw [e, q10]; exact F10
  by_cases q11 : i = (11 : Int32)
  · have e : own_kd i w0 w1 w2 w3 w4 w5 w6 w7 w8 w9 w10 w11 w12 w13 w14 w15 w16 = w11 := by unfold own_kd; rw [if_neg q0, if_neg q1, if_neg q2, if_neg q3, if_neg q4, if_neg q5, if_neg q6, if_neg q7, if_neg q8, if_neg q9, if_neg q10, if_pos q11]
    rw [e, q11]; exact F11
  by_cases q12 : i = (12 : Int32)
  · have e : own_kd i w0 w1 w2 w3 w4 w5 w6 w7 w8 w9 w10 w11 w12 w13 w14 w15 w16 = w12 := by unfold own_kd; rw [if_neg q0, if_neg q1, if_neg q2, if_neg q3, if_neg q4, if_neg q5, if_neg q6, if_neg q7, if_neg q8, if_neg q9, if_neg q10, if_neg q11, if_pos q12]
    rw [e, q12]; exact F12
  by_cases q13 : i = (13 : Int32)
  · have e : own_kd i w0 w1 w2 w3 w4 w5 w6 w7 w8 w9 w10 w11 w12 w13 w14 w15 w16 = w13 := by unfold own_kd; rw [if_neg q0, if_neg q1, if_neg q2, if_neg q3, if_neg q4, if_neg q5, if_neg q6, if_neg q7, if_neg q8, if_neg q9, if_neg q10, if_neg q11, if_neg q12, if_pos q13]
    rw [e, q13]; exact F13
  by_cases q14 : i = (14 : Int32)
  · have e : own_kd i w0 w1 w2 w3 w4 w5 w6 w7 w8 w9 w10 w11 w12 w13 w14 w15 w16 = w14 := by unfold own_kd; rw [if_neg q0, if_neg q1, if_neg q2, if_neg q3, if_neg q4, if_neg q5, if_neg q6, if_neg q7, if_neg q8, if_neg q9, if_neg q10, if_neg q11, if_neg q12, if_neg q13, if_pos q14]
    rw [e, q14]; exact F14
  by_cases q15 : i = (15 : Int32)
  · have e : own_kd i w0 w1 w2 w3 w4 w5 w6 w7 w8 w9 w10 w11 w12 w13 w14 w15 w16 = w15 := by unfold own_kd; rw [if_neg q0, if_neg q1, if_neg q2, if_neg q3, if_neg q4, if_neg q5, if_neg q6, if_neg q7, if_neg q8, if_neg q9, if_neg q10, if_neg q11, if_neg q12, if_neg q13, if_neg q14, if_pos q15]
    rw [e, q15]; exact F15
  have e : own_kd i w0 w1 w2 w3 w4 w5 w6 w7 w8 w9 w10 w11 w12 w13 w14 w15 w16 = w16 := by unfold own_kd; rw [if_neg q0, if_neg q1, if_neg q2, if_neg q3, if_neg q4, if_neg q5, if_neg q6, if_neg q7, if_neg q8, if_neg q9, if_neg q10, if_neg q11, if_neg q12, if_neg q13, if_neg q14, if_neg q15]
  have q16 : i = (16 : Int32) := by
    have r0 : i.toInt ≠ 0 := fun h => q0 (Int32.toInt_inj.mp (h.trans rfl))
    have r1 : i.toInt ≠ 1 := fun h => q1 (Int32.toInt_inj.mp (h.trans rfl))
    have r2 : i.toInt ≠ 2 := fun h => q2 (Int32.toInt_inj.mp (h.trans rfl))
    have r3 : i.toInt ≠ 3 := fun h => q3 (Int32.toInt_inj.mp (h.trans rfl))
    have r4 : i.toInt ≠ 4 := fun h => q4 (Int32.toInt_inj.mp (h.trans rfl))
    have r5 : i.toInt ≠ 5 := fun h => q5 (Int32.toInt_inj.mp (h.trans rfl))
    have r6 : i.toInt ≠ 6 := fun h => q6 (Int32.toInt_inj.mp (h.trans rfl))
    have r7 : i.toInt ≠ 7 := fun h => q7 (Int32.toInt_inj.mp (h.trans rfl))
    have r8 : i.toInt ≠ 8 := fun h => q8 (Int32.toInt_inj.mp (h.trans rfl))
    have r9 : i.toInt ≠ 9 := fun h => q9 (Int32.toInt_inj.mp (h.trans rfl))
    have r10 : i.toInt ≠ 10 := fun h => q10 (Int32.toInt_inj.mp (h.trans rfl))
    have r11 : i.toInt ≠ 11 := fun h => q11 (Int32.toInt_inj.mp (h.trans rfl))
    have r12 : i.toInt ≠ 12 := fun h => q12 (Int32.toInt_inj.mp (h.trans rfl))
    have r13 : i.toInt ≠ 13 := fun h => q13 (Int32.toInt_inj.mp (h.trans rfl))
    have r14 : i.toInt ≠ 14 := fun h => q14 (Int32.toInt_inj.mp (h.trans rfl))
    have r15 : i.toInt ≠ 15 := fun h => q15 (Int32.toInt_inj.mp (h.trans rfl))
    exact Int32.toInt_inj.mp (show i.toInt = 16 by omega)
  rw [e, q16]; exact F16
def QU (r : Option Value) (h0 : Heap) (n0 : Nat) (v : Option Value) (h : Heap) (L : List Loc) : Prop := v = r ∧ Fr n0 L ∧ h = h0
theorem dR_0 : decode jdk_30_method_1_code 0 = .ok (.aload_n 0, 1) := by decide +kernel
theorem dR_1 : decode jdk_30_method_1_code 1 = .ok (.invokespecial 1, 3) := by decide +kernel
theorem dR_4 : decode jdk_30_method_1_code 4 = .ok (.return_, 1) := by decide +kernel
theorem pnR : plainName "java/lang/Record" = true := by first | (simp [plainName, overriddenIn]; done) | decide +kernel
theorem efR (m : MethodId) (x0 : Addr) : entryFrame m #[(.ref x0)] 1 = mkF m 0 #[.val (.ref x0)] [] := by first | (simp [entryFrame, mkF, argsToLocals, Value.category]; done) | rfl
set_option maxRecDepth 65536 in
set_option maxHeartbeats 40000000 in
theorem rmR (l : Launch) (Z : State) (a0 : Array Value) (hw : ∀ d ∈ tables_1, d.before a0 Z = true) (ws : List Jvm.Cond) (a1 : Addr) (h0 : Heap) (n0 : Nat)  :
    MetFree l (⟨"java/lang/Record", "<init>", "()V"⟩ : MethodName) (head1 (Jvm.Cond.code (⟨"java/lang/Record", "<init>", "()V"⟩ : MethodName) jdk_30_method_1_code 1 none :: ws) ({ frames := 1, cells := 0, slots := 0, locals := 12 } : Room)) (fun a U => a = #[(.ref a1)] ∧ Z.Warmed39 U.vm ∧ U.heap = h0) (fun _ _ _ _ _ => True) (fun _ U o U' => ∃ v L, o = .returned v ∧ QU none h0 n0 v U'.heap L ∧ FrameEnd U o U' L ({ frames := 1, cells := 0, slots := 0, locals := 12 } : Room).cells ({ frames := 1, cells := 0, slots := 0, locals := 12 } : Room).slots) := by
  refine MetFree.of_bodySF (plainFor_of_name pnR) hisR ?_
  intro p e s m args below meth c s₁ Bd hml0 hP hK
  obtain ⟨rfl, hZ, hh⟩ := hP
  have hx := Bd.exec
  have hby := Bd.bytes
  have hml : c.maxLocals = 1 := hml0
  have hown : s.vm.findClass "java/lang/Record" = some m.cls := findClass_of_methodNamed Bd.named
  have hnm := (name_of_methodNamed Bd.named Bd.method).1
  have X0 : Stand p l e ({ frames := 1, cells := 0, slots := 0, locals := 12 } : Room) s m #[(.ref a1)] below meth c s₁ [] 0 0 := Stand.of_body Bd
  have e0 : s₁.heap = h0 := by rw [← hh, Bd.state]; rfl
  have N0 := Fr.nil n0
  have go0 : ∀ t, Steps p.tables e below (s₁.setTop (mkF m 0 #[.val (.ref a1)] [])) t → Steps p.tables e below (s₁.setTop (entryFrame m #[(.ref a1)] 1)) t := fun t k => castTop (efR m a1) k
  obtain ⟨T101, X101, e101, st101⟩ := initO X0 hx hZ hown (hw _ (List.mem_of_getElem? (i := 44) rfl)) (hw _ (List.mem_of_getElem? (i := 17) rfl)) (hw _ (List.mem_of_getElem? (i := 18) rfl)) e0 (g := (mkF m 1 #[.val (.ref a1)] [(.ref a1)])) rfl (by rw [hml]; rfl) rfl (hb hby dR_1) (by decide) (W := 0) (by show 2 * 0 + _ ≤ _; exact Nat.le_of_eq rfl) (by decide)
  obtain ⟨fs, hr, hrun, hended, hW, hsame⟩ := X101.leave (v := none) (fun _ => rfl)
  refine ⟨_, _, go0 _ ?_, hrun, hended, _, _, rfl, ?_, ⟨_, rfl⟩, hW, hsame.mono (by decide) (by decide)⟩
  · show Steps p.tables e below (s₁.setTop (mkF m 0 #[.val (.ref a1)] [])) _
    refine XS.aloadN X0.here hx rfl (hb hby dR_0) rfl rfl ?_
    show Steps p.tables e below (s₁.setTop (mkF m 1 #[.val (.ref a1)] [(.ref a1)])) _
    refine st101 _ ?_
    show Steps p.tables e below (T101.setTop (mkF m 4 #[.val (.ref a1)] [])) _
    exact X101.returnOut hx Bd.returns (hb hby dR_4) hr
  · show QU none h0 n0 _ T101.heap _
    rw [e101]
    exact ⟨rfl, N0, rfl⟩
theorem dP_0 : decode prog_55_method_1_code 0 = .ok (.aload_n 0, 1) := by decide +kernel
theorem dP_1 : decode prog_55_method_1_code 1 = .ok (.invokespecial 1, 3) := by decide +kernel
theorem dP_4 : decode prog_55_method_1_code 4 = .ok (.aload_n 0, 1) := by decide +kernel
theorem dP_5 : decode prog_55_method_1_code 5 = .ok (.aload_n 1, 1) := by decide +kernel
theorem dP_6 : decode prog_55_method_1_code 6 = .ok (.putfield 7, 3) := by decide +kernel
theorem dP_9 : decode prog_55_method_1_code 9 = .ok (.aload_n 0, 1) := by decide +kernel
theorem dP_10 : decode prog_55_method_1_code 10 = .ok (.iload_n 2, 1) := by decide +kernel
theorem dP_11 : decode prog_55_method_1_code 11 = .ok (.putfield 13, 3) := by decide +kernel
theorem dP_14 : decode prog_55_method_1_code 14 = .ok (.return_, 1) := by decide +kernel
theorem pnP : plainName "com/example/tramway/tramway/idl/Position" = true := by first | (simp [plainName, overriddenIn]; done) | decide +kernel
theorem efP (m : MethodId) (x0 : Addr) (x1 : Addr) (x2 : Int32) : entryFrame m #[(.ref x0), (.ref x1), (.int x2)] 3 = mkF m 0 #[.val (.ref x0), .val (.ref x1), .val (.int x2)] [] := by first | (simp [entryFrame, mkF, argsToLocals, Value.category]; done) | rfl
def QP (Z : State) (a1 : Addr) (h0 : Heap) (n0 : Nat) (v : Option Value) (h : Heap) (L : List Loc) : Prop := v = none ∧ Fr n0 L ∧ Keep h0 h [a1]
set_option maxRecDepth 65536 in
set_option maxHeartbeats 40000000 in
theorem rmP (l : Launch) (Z : State) (a0 : Array Value) (hw : ∀ d ∈ tables_1, d.before a0 Z = true) (ws : List Jvm.Cond) (a1 a2 : Addr) (p3 : Int32) (u1 u2 : Value) (h0 : Heap) (n0 : Nat) (g_a1 : n0 ≤ a1) (E_a1 : Exa Z h0 a1 "com/example/tramway/tramway/idl/Position") (F_sFile_a1 : Fld Z h0 a1 "com/example/tramway/tramway/idl/Position" "sFile" "Ljava/lang/String;" u1) (F_nLine_a1 : Fld Z h0 a1 "com/example/tramway/tramway/idl/Position" "nLine" "I" u2) :
    MetFree l (⟨"com/example/tramway/tramway/idl/Position", "<init>", "(Ljava/lang/String;I)V"⟩ : MethodName) (head1 (Jvm.Cond.code (⟨"com/example/tramway/tramway/idl/Position", "<init>", "(Ljava/lang/String;I)V"⟩ : MethodName) prog_55_method_1_code 3 none :: ws) ({ frames := 2, cells := 0, slots := 0, locals := 24 } : Room)) (fun a U => a = #[(.ref a1), (.ref a2), (.int p3)] ∧ Z.Warmed39 U.vm ∧ U.heap = h0) (fun _ _ _ _ _ => True) (fun _ U o U' => ∃ v L, o = .returned v ∧ QP Z a1 h0 n0 v U'.heap L ∧ FrameEnd U o U' L ({ frames := 2, cells := 0, slots := 0, locals := 24 } : Room).cells ({ frames := 2, cells := 0, slots := 0, locals := 24 } : Room).slots) := by
  refine MetFree.of_bodySF (plainFor_of_name pnP) hisR ?_
  intro p e s m args below meth c s₁ Bd hml0 hP hK
  obtain ⟨rfl, hZ, hh⟩ := hP
  have hx := Bd.exec
  have hby := Bd.bytes
  have hml : c.maxLocals = 3 := hml0
  have hown : s.vm.findClass "com/example/tramway/tramway/idl/Position" = some m.cls := findClass_of_methodNamed Bd.named
  have hnm := (name_of_methodNamed Bd.named Bd.method).1
  have X0 : Stand p l e ({ frames := 2, cells := 0, slots := 0, locals := 24 } : Room) s m #[(.ref a1), (.ref a2), (.int p3)] below meth c s₁ [] 0 0 := Stand.of_body Bd
  have e0 : s₁.heap = h0 := by rw [← hh, Bd.state]; rfl
  have N0 := Fr.nil n0
  have go0 : ∀ t, Steps p.tables e below (s₁.setTop (mkF m 0 #[.val (.ref a1), .val (.ref a2), .val (.int p3)] [])) t → Steps p.tables e below (s₁.setTop (entryFrame m #[(.ref a1), (.ref a2), (.int p3)] 3)) t := fun t k => castTop (efP m a1 a2 p3) k
  have KH0 : Keep h0 h0 [a1] := Keep.refl h0 [a1]
  obtain ⟨_, _, ⟨T101, L101, kk101, nn101⟩, -, X101, ⟨Lc101, hQ101, l101, y101, z101⟩, st101⟩ := X0.specialBack hx (y := (⟨"java/lang/Record", "<init>", "()V"⟩ : MethodName)) rfl hown (mvT hZ (hw _ (List.mem_of_getElem? (i := 39) rfl))) (mvT hZ (hw _ (List.mem_of_getElem? (i := 40) rfl))) (mvT hZ (hw _ (List.mem_of_getElem? (i := 43) rfl))) (by decide) (backOf (W := 0) (rmR l Z a0 hw [] a1 h0 n0) hZ (hw _ (List.mem_of_getElem? (i := 43) rfl)) (hw _ (List.mem_of_getElem? (i := 42) rfl)) (by decide) (by decide)) (g := (mkF m 1 #[.val (.ref a1), .val (.ref a2), .val (.int p3)] [(.ref a1)])) rfl (by rw [hml]; rfl) (Steps.refl _) (a := a1) (argsL := []) (rest := []) (lenOf pd___V rfl) rfl (by show 2 * 0 + _ ≤ _; exact Nat.le_of_eq rfl) (hb hby dP_1) (fun _ _ => ⟨rfl, e0, Nat.le_of_ble_eq_true rfl, Nat.le_of_ble_eq_true rfl⟩)
  dsimp only [Pt.U, Pt.locs, Pt.cells, Pt.slots] at X101 l101 y101 z101 st101 hQ101
  subst l101 y101 z101
  obtain ⟨rfl, Nq101, e101⟩ := hQ101
  have N101 := Fr.app N0 Nq101
  obtain ⟨T102, h102, X102, e102, W102, st102⟩ := putF X101 hx hZ hown (host := "") (Or.inl (hw _ (List.mem_of_getElem? (i := 45) rfl))) Via.refl e101 F_sFile_a1 E_a1 (Or.inr ⟨(hw _ (List.mem_of_getElem? (i := 46) rfl)), rfl, hnm⟩) (hw _ (List.mem_of_getElem? (i := 34) rfl)) (ty := (.object "java/lang/String")) (by decide) rfl rfl (g := (mkF m 6 #[.val (.ref a1), .val (.ref a2), .val (.int p3)] [(.ref a2), (.ref a1)])) rfl rfl (hb hby dP_6)
  have Fw102 := F_sFile_a1.same W102
  have K102 : Keep h0 h102 [a1] := Keep.of_wr W102
  have KH103 : Keep h0 h102 [a1] := KH0.trans K102 (allS (Or.inl (List.mem_of_getElem? (i := 0) rfl)) all0)
  have N102 := Fr.snoc X102 N101 g_a1
  have F_nLine_a1_105 := (F_nLine_a1.other W102 (Or.inr (slot_ne (Or.inr (hw _ (List.mem_of_getElem? (i := 48) rfl))) (Or.inr (hw _ (List.mem_of_getElem? (i := 46) rfl))) (by decide) (t := .int) (t' := (.object "java/lang/String")) (by decide) (by decide))))
  have E_a1_106 := (E_a1.keep K102)
  obtain ⟨T104, h104, X104, e104, W104, st104⟩ := putF X102 hx hZ hown (host := "") (Or.inl (hw _ (List.mem_of_getElem? (i := 47) rfl))) Via.refl e102 F_nLine_a1_105 E_a1_106 (Or.inr ⟨(hw _ (List.mem_of_getElem? (i := 48) rfl)), rfl, hnm⟩) (hw _ (List.mem_of_getElem? (i := 34) rfl)) (ty := .int) (by decide) rfl rfl (g := (mkF m 11 #[.val (.ref a1), .val (.ref a2), .val (.int p3)] [(.int p3), (.ref a1)])) rfl rfl (hb hby dP_11)
  have Fw104 := F_nLine_a1_105.same W104
  have K104 : Keep h102 h104 [a1] := Keep.of_wr W104
  have KH107 : Keep h0 h104 [a1] := KH103.trans K104 (allS (Or.inl (List.mem_of_getElem? (i := 0) rfl)) all0)
  have N104 := Fr.snoc X104 N102 g_a1
  obtain ⟨fs, hr, hrun, hended, hW, hsame⟩ := X104.leave (v := none) (fun _ => rfl)
  refine ⟨_, _, go0 _ ?_, hrun, hended, _, _, rfl, ?_, ⟨_, rfl⟩, hW, hsame.mono (by decide) (by decide)⟩
  · show Steps p.tables e below (s₁.setTop (mkF m 0 #[.val (.ref a1), .val (.ref a2), .val (.int p3)] [])) _
    refine XS.aloadN X0.here hx rfl (hb hby dP_0) rfl rfl ?_
    show Steps p.tables e below (s₁.setTop (mkF m 1 #[.val (.ref a1), .val (.ref a2), .val (.int p3)] [(.ref a1)])) _
    refine st101.trans ?_
    show Steps p.tables e below (T101.setTop (mkF m 4 #[.val (.ref a1), .val (.ref a2), .val (.int p3)] [])) _
    refine XS.aloadN X101.here hx rfl (hb hby dP_4) rfl rfl ?_
    show Steps p.tables e below (T101.setTop (mkF m 5 #[.val (.ref a1), .val (.ref a2), .val (.int p3)] [(.ref a1)])) _
    refine XS.aloadN X101.here hx rfl (hb hby dP_5) rfl rfl ?_
    show Steps p.tables e below (T101.setTop (mkF m 6 #[.val (.ref a1), .val (.ref a2), .val (.int p3)] [(.ref a2), (.ref a1)])) _
    refine st102 _ ?_
    show Steps p.tables e below (T102.setTop (mkF m 9 #[.val (.ref a1), .val (.ref a2), .val (.int p3)] [])) _
    refine XS.aloadN X102.here hx rfl (hb hby dP_9) rfl rfl ?_
    show Steps p.tables e below (T102.setTop (mkF m 10 #[.val (.ref a1), .val (.ref a2), .val (.int p3)] [(.ref a1)])) _
    refine XS.iloadN X102.here hx rfl (hb hby dP_10) rfl ?_
    show Steps p.tables e below (T102.setTop (mkF m 11 #[.val (.ref a1), .val (.ref a2), .val (.int p3)] [(.int p3), (.ref a1)])) _
    refine st104 _ ?_
    show Steps p.tables e below (T104.setTop (mkF m 14 #[.val (.ref a1), .val (.ref a2), .val (.int p3)] [])) _
    exact X104.returnOut hx Bd.returns (hb hby dP_14) hr
  · show QP Z a1 h0 n0 _ T104.heap _
    rw [e104]
    exact ⟨rfl, N104, KH107⟩
theorem dT_0 : decode prog_64_method_1_code 0 = .ok (.aload_n 0, 1) := by decide +kernel
theorem dT_1 : decode prog_64_method_1_code 1 = .ok (.invokespecial 1, 3) := by decide +kernel
theorem dT_4 : decode prog_64_method_1_code 4 = .ok (.aload_n 0, 1) := by decide +kernel
theorem dT_5 : decode prog_64_method_1_code 5 = .ok (.aload_n 1, 1) := by decide +kernel
theorem dT_6 : decode prog_64_method_1_code 6 = .ok (.putfield 7, 3) := by decide +kernel
theorem dT_9 : decode prog_64_method_1_code 9 = .ok (.aload_n 0, 1) := by decide +kernel
theorem dT_10 : decode prog_64_method_1_code 10 = .ok (.aload_n 2, 1) := by decide +kernel
theorem dT_11 : decode prog_64_method_1_code 11 = .ok (.putfield 13, 3) := by decide +kernel
theorem dT_14 : decode prog_64_method_1_code 14 = .ok (.aload_n 0, 1) := by decide +kernel
theorem dT_15 : decode prog_64_method_1_code 15 = .ok (.aload_n 3, 1) := by decide +kernel
theorem dT_16 : decode prog_64_method_1_code 16 = .ok (.putfield 17, 3) := by decide +kernel
theorem dT_19 : decode prog_64_method_1_code 19 = .ok (.aload_n 0, 1) := by decide +kernel
theorem dT_20 : decode prog_64_method_1_code 20 = .ok (.iload 4, 2) := by decide +kernel
theorem dT_22 : decode prog_64_method_1_code 22 = .ok (.putfield 21, 3) := by decide +kernel
theorem dT_25 : decode prog_64_method_1_code 25 = .ok (.return_, 1) := by decide +kernel
theorem pnT : plainName "com/example/tramway/tramway/idl/Token" = true := by first | (simp [plainName, overriddenIn]; done) | decide +kernel
theorem efT (m : MethodId) (x0 : Addr) (x1 : Addr) (x2 : Addr) (x3 : Addr) (x4 : Int32) : entryFrame m #[(.ref x0), (.ref x1), (.ref x2), (.ref x3), (.int x4)] 5 = mkF m 0 #[.val (.ref x0), .val (.ref x1), .val (.ref x2), .val (.ref x3), .val (.int x4)] [] := by first | (simp [entryFrame, mkF, argsToLocals, Value.category]; done) | rfl
def QT (Z : State) (a1 a2 a3 : Addr) (h0 : Heap) (n0 : Nat) (v : Option Value) (h : Heap) (L : List Loc) : Prop := v = none ∧ Fr n0 L ∧ Keep h0 h [a1] ∧ Exa Z h a1 "com/example/tramway/tramway/idl/Token" ∧ Fld Z h a1 "com/example/tramway/tramway/idl/Token" "eKind" "Lcom/example/tramway/tramway/idl/Token$Kind;" (.ref a2) ∧ Fld Z h a1 "com/example/tramway/tramway/idl/Token" "sText" "Ljava/lang/String;" (.ref a3)
set_option maxRecDepth 65536 in
set_option maxHeartbeats 40000000 in
theorem rmT (l : Launch) (Z : State) (a0 : Array Value) (hw : ∀ d ∈ tables_1, d.before a0 Z = true) (ws : List Jvm.Cond) (a1 a2 a3 a4 : Addr) (p5 : Int32) (u1 u2 u3 u4 : Value) (h0 : Heap) (n0 : Nat) (g_a1 : n0 ≤ a1) (E_a1 : Exa Z h0 a1 "com/example/tramway/tramway/idl/Token") (F_eKind_a1 : Fld Z h0 a1 "com/example/tramway/tramway/idl/Token" "eKind" "Lcom/example/tramway/tramway/idl/Token$Kind;" u1) (F_sText_a1 : Fld Z h0 a1 "com/example/tramway/tramway/idl/Token" "sText" "Ljava/lang/String;" u2) (F_aPosition_a1 : Fld Z h0 a1 "com/example/tramway/tramway/idl/Token" "aPosition" "Lcom/example/tramway/tramway/idl/Position;" u3) (F_bSpaced_a1 : Fld Z h0 a1 "com/example/tramway/tramway/idl/Token" "bSpaced" "Z" u4) :
    MetFree l (⟨"com/example/tramway/tramway/idl/Token", "<init>", "(Lcom/example/tramway/tramway/idl/Token$Kind;Ljava/lang/String;Lcom/example/tramway/tramway/idl/Position;Z)V"⟩ : MethodName) (head1 (Jvm.Cond.code (⟨"com/example/tramway/tramway/idl/Token", "<init>", "(Lcom/example/tramway/tramway/idl/Token$Kind;Ljava/lang/String;Lcom/example/tramway/tramway/idl/Position;Z)V"⟩ : MethodName) prog_64_method_1_code 5 none :: ws) ({ frames := 2, cells := 0, slots := 0, locals := 24 } : Room)) (fun a U => a = #[(.ref a1), (.ref a2), (.ref a3), (.ref a4), (.int p5)] ∧ Z.Warmed39 U.vm ∧ U.heap = h0) (fun _ _ _ _ _ => True) (fun _ U o U' => ∃ v L, o = .returned v ∧ QT Z a1 a2 a3 h0 n0 v U'.heap L ∧ FrameEnd U o U' L ({ frames := 2, cells := 0, slots := 0, locals := 24 } : Room).cells ({ frames := 2, cells := 0, slots := 0, locals := 24 } : Room).slots) := by
  refine MetFree.of_bodySF (plainFor_of_name pnT) hisR ?_
  intro p e s m args below meth c s₁ Bd hml0 hP hK
  obtain ⟨rfl, hZ, hh⟩ := hP
  have hx := Bd.exec
  have hby := Bd.bytes
  have hml : c.maxLocals = 5 := hml0
  have hown : s.vm.findClass "com/example/tramway/tramway/idl/Token" = some m.cls := findClass_of_methodNamed Bd.named
  have hnm := (name_of_methodNamed Bd.named Bd.method).1
  have X0 : Stand p l e ({ frames := 2, cells := 0, slots := 0, locals := 24 } : Room) s m #[(.ref a1), (.ref a2), (.ref a3), (.ref a4), (.int p5)] below meth c s₁ [] 0 0 := Stand.of_body Bd
  have e0 : s₁.heap = h0 := by rw [← hh, Bd.state]; rfl
  have N0 := Fr.nil n0
  have go0 : ∀ t, Steps p.tables e below (s₁.setTop (mkF m 0 #[.val (.ref a1), .val (.ref a2), .val (.ref a3), .val (.ref a4), .val (.int p5)] [])) t → Steps p.tables e below (s₁.setTop (entryFrame m #[(.ref a1), (.ref a2), (.ref a3), (.ref a4), (.int p5)] 5)) t := fun t k => castTop (efT m a1 a2 a3 a4 p5) k
  have KH0 : Keep h0 h0 [a1] := Keep.refl h0 [a1]
  obtain ⟨_, _, ⟨T101, L101, kk101, nn101⟩, -, X101, ⟨Lc101, hQ101, l101, y101, z101⟩, st101⟩ := X0.specialBack hx (y := (⟨"java/lang/Record", "<init>", "()V"⟩ : MethodName)) rfl hown (mvT hZ (hw _ (List.mem_of_getElem? (i := 55) rfl))) (mvT hZ (hw _ (List.mem_of_getElem? (i := 40) rfl))) (mvT hZ (hw _ (List.mem_of_getElem? (i := 43) rfl))) (by decide) (backOf (W := 0) (rmR l Z a0 hw [] a1 h0 n0) hZ (hw _ (List.mem_of_getElem? (i := 43) rfl)) (hw _ (List.mem_of_getElem? (i := 42) rfl)) (by decide) (by decide)) (g := (mkF m 1 #[.val (.ref a1), .val (.ref a2), .val (.ref a3), .val (.ref a4), .val (.int p5)] [(.ref a1)])) rfl (by rw [hml]; rfl) (Steps.refl _) (a := a1) (argsL := []) (rest := []) (lenOf pd___V rfl) rfl (by show 2 * 0 + _ ≤ _; exact Nat.le_of_eq rfl) (hb hby dT_1) (fun _ _ => ⟨rfl, e0, Nat.le_of_ble_eq_true rfl, Nat.le_of_ble_eq_true rfl⟩)
  dsimp only [Pt.U, Pt.locs, Pt.cells, Pt.slots] at X101 l101 y101 z101 st101 hQ101
  subst l101 y101 z101
  obtain ⟨rfl, Nq101, e101⟩ := hQ101
  have N101 := Fr.app N0 Nq101
  obtain ⟨T102, h102, X102, e102, W102, st102⟩ := putF X101 hx hZ hown (host := "") (Or.inl (hw _ (List.mem_of_getElem? (i := 56) rfl))) Via.refl e101 F_eKind_a1 E_a1 (Or.inr ⟨(hw _ (List.mem_of_getElem? (i := 57) rfl)), rfl, hnm⟩) (hw _ (List.mem_of_getElem? (i := 50) rfl)) (ty := (.object "com/example/tramway/tramway/idl/Token$Kind")) (by decide) rfl rfl (g := (mkF m 6 #[.val (.ref a1), .val (.ref a2), .val (.ref a3), .val (.ref a4), .val (.int p5)] [(.ref a2), (.ref a1)])) rfl rfl (hb hby dT_6)
  have Fw102 := F_eKind_a1.same W102
  have K102 : Keep h0 h102 [a1] := Keep.of_wr W102
  have KH103 : Keep h0 h102 [a1] := KH0.trans K102 (allS (Or.inl (List.mem_of_getElem? (i := 0) rfl)) all0)
  have N102 := Fr.snoc X102 N101 g_a1
  have F_sText_a1_105 := (F_sText_a1.other W102 (Or.inr (slot_ne (Or.inr (hw _ (List.mem_of_getElem? (i := 59) rfl))) (Or.inr (hw _ (List.mem_of_getElem? (i := 57) rfl))) (by decide) (t := (.object "java/lang/String")) (t' := (.object "com/example/tramway/tramway/idl/Token$Kind")) (by decide) (by decide))))
  have E_a1_106 := (E_a1.keep K102)
  obtain ⟨T104, h104, X104, e104, W104, st104⟩ := putF X102 hx hZ hown (host := "") (Or.inl (hw _ (List.mem_of_getElem? (i := 58) rfl))) Via.refl e102 F_sText_a1_105 E_a1_106 (Or.inr ⟨(hw _ (List.mem_of_getElem? (i := 59) rfl)), rfl, hnm⟩) (hw _ (List.mem_of_getElem? (i := 50) rfl)) (ty := (.object "java/lang/String")) (by decide) rfl rfl (g := (mkF m 11 #[.val (.ref a1), .val (.ref a2), .val (.ref a3), .val (.ref a4), .val (.int p5)] [(.ref a3), (.ref a1)])) rfl rfl (hb hby dT_11)
  have Fw104 := F_sText_a1_105.same W104
  have K104 : Keep h102 h104 [a1] := Keep.of_wr W104
  have KH107 : Keep h0 h104 [a1] := KH103.trans K104 (allS (Or.inl (List.mem_of_getElem? (i := 0) rfl)) all0)
  have N104 := Fr.snoc X104 N102 g_a1
  have F_aPosition_a1_109 := ((F_aPosition_a1.other W102 (Or.inr (slot_ne (Or.inr (hw _ (List.mem_of_getElem? (i := 61) rfl))) (Or.inr (hw _ (List.mem_of_getElem? (i := 57) rfl))) (by decide) (t := (.object "com/example/tramway/tramway/idl/Position")) (t' := (.object "com/example/tramway/tramway/idl/Token$Kind")) (by decide) (by decide)))).other W104 (Or.inr (slot_ne (Or.inr (hw _ (List.mem_of_getElem? (i := 61) rfl))) (Or.inr (hw _ (List.mem_of_getElem? (i := 59) rfl))) (by decide) (t := (.object "com/example/tramway/tramway/idl/Position")) (t' := (.object "java/lang/String")) (by decide) (by decide))))
  have E_a1_110 := (E_a1_106.keep K104)
  obtain ⟨T108, h108, X108, e108, W108, st108⟩ := putF X104 hx hZ hown (host := "") (Or.inl (hw _ (List.mem_of_getElem? (i := 60) rfl))) Via.refl e104 F_aPosition_a1_109 E_a1_110 (Or.inr ⟨(hw _ (List.mem_of_getElem? (i := 61) rfl)), rfl, hnm⟩) (hw _ (List.mem_of_getElem? (i := 50) rfl)) (ty := (.object "com/example/tramway/tramway/idl/Position")) (by decide) rfl rfl (g := (mkF m 16 #[.val (.ref a1), .val (.ref a2), .val (.ref a3), .val (.ref a4), .val (.int p5)] [(.ref a4), (.ref a1)])) rfl rfl (hb hby dT_16)
  have Fw108 := F_aPosition_a1_109.same W108
  have K108 : Keep h104 h108 [a1] := Keep.of_wr W108
  have KH111 : Keep h0 h108 [a1] := KH107.trans K108 (allS (Or.inl (List.mem_of_getElem? (i := 0) rfl)) all0)
  have N108 := Fr.snoc X108 N104 g_a1
  have F_bSpaced_a1_113 := (((F_bSpaced_a1.other W102 (Or.inr (slot_ne (Or.inr (hw _ (List.mem_of_getElem? (i := 63) rfl))) (Or.inr (hw _ (List.mem_of_getElem? (i := 57) rfl))) (by decide) (t := .boolean) (t' := (.object "com/example/tramway/tramway/idl/Token$Kind")) (by decide) (by decide)))).other W104 (Or.inr (slot_ne (Or.inr (hw _ (List.mem_of_getElem? (i := 63) rfl))) (Or.inr (hw _ (List.mem_of_getElem? (i := 59) rfl))) (by decide) (t := .boolean) (t' := (.object "java/lang/String")) (by decide) (by decide)))).other W108 (Or.inr (slot_ne (Or.inr (hw _ (List.mem_of_getElem? (i := 63) rfl))) (Or.inr (hw _ (List.mem_of_getElem? (i := 61) rfl))) (by decide) (t := .boolean) (t' := (.object "com/example/tramway/tramway/idl/Position")) (by decide) (by decide))))
  have E_a1_114 := (E_a1_110.keep K108)
  obtain ⟨T112, h112, X112, e112, W112, st112⟩ := putFN X108 hx hZ hown (hw _ (List.mem_of_getElem? (i := 62) rfl)) Via.refl e108 F_bSpaced_a1_113 E_a1_114 (Or.inr ⟨(hw _ (List.mem_of_getElem? (i := 63) rfl)), rfl, hnm⟩) (hw _ (List.mem_of_getElem? (i := 50) rfl)) (ty := .boolean) (v' := (.int (nar .boolean p5))) (by decide) rfl (fits_nar_bool _) (g := (mkF m 22 #[.val (.ref a1), .val (.ref a2), .val (.ref a3), .val (.ref a4), .val (.int p5)] [(.int p5), (.ref a1)])) rfl rfl (hb hby dT_22)
  have Fw112 := F_bSpaced_a1_113.same W112
  have K112 : Keep h108 h112 [a1] := Keep.of_wr W112
  have KH115 : Keep h0 h112 [a1] := KH111.trans K112 (allS (Or.inl (List.mem_of_getElem? (i := 0) rfl)) all0)
  have N112 := Fr.snoc X112 N108 g_a1
  have E_a1_116 := (E_a1_114.keep K112)
  have F_eKind_a1_117 := (((Fw102.other W104 (Or.inr (slot_ne (Or.inr (hw _ (List.mem_of_getElem? (i := 57) rfl))) (Or.inr (hw _ (List.mem_of_getElem? (i := 59) rfl))) (by decide) (t := (.object "com/example/tramway/tramway/idl/Token$Kind")) (t' := (.object "java/lang/String")) (by decide) (by decide)))).other W108 (Or.inr (slot_ne (Or.inr (hw _ (List.mem_of_getElem? (i := 57) rfl))) (Or.inr (hw _ (List.mem_of_getElem? (i := 61) rfl))) (by decide) (t := (.object "com/example/tramway/tramway/idl/Token$Kind")) (t' := (.object "com/example/tramway/tramway/idl/Position")) (by decide) (by decide)))).other W112 (Or.inr (slot_ne (Or.inr (hw _ (List.mem_of_getElem? (i := 57) rfl))) (Or.inr (hw _ (List.mem_of_getElem? (i := 63) rfl))) (by decide) (t := (.object "com/example/tramway/tramway/idl/Token$Kind")) (t' := .boolean) (by decide) (by decide))))
  have F_sText_a1_118 := ((Fw104.other W108 (Or.inr (slot_ne (Or.inr (hw _ (List.mem_of_getElem? (i := 59) rfl))) (Or.inr (hw _ (List.mem_of_getElem? (i := 61) rfl))) (by decide) (t := (.object "java/lang/String")) (t' := (.object "com/example/tramway/tramway/idl/Position")) (by decide) (by decide)))).other W112 (Or.inr (slot_ne (Or.inr (hw _ (List.mem_of_getElem? (i := 59) rfl))) (Or.inr (hw _ (List.mem_of_getElem? (i := 63) rfl))) (by decide) (t := (.object "java/lang/String")) (t' := .boolean) (by decide) (by decide))))
  obtain ⟨fs, hr, hrun, hended, hW, hsame⟩ := X112.leave (v := none) (fun _ => rfl)
  refine ⟨_, _, go0 _ ?_, hrun, hended, _, _, rfl, ?_, ⟨_, rfl⟩, hW, hsame.mono (by decide) (by decide)⟩
  · show Steps p.tables e below (s₁.setTop (mkF m 0 #[.val (.ref a1), .val (.ref a2), .val (.ref a3), .val (.ref a4), .val (.int p5)] [])) _
    refine XS.aloadN X0.here hx rfl (hb hby dT_0) rfl rfl ?_
    show Steps p.tables e below (s₁.setTop (mkF m 1 #[.val (.ref a1), .val (.ref a2), .val (.ref a3), .val (.ref a4), .val (.int p5)] [(.ref a1)])) _
    refine st101.trans ?_
    show Steps p.tables e below (T101.setTop (mkF m 4 #[.val (.ref a1), .val (.ref a2), .val (.ref a3), .val (.ref a4), .val (.int p5)] [])) _
    refine XS.aloadN X101.here hx rfl (hb hby dT_4) rfl rfl ?_
    show Steps p.tables e below (T101.setTop (mkF m 5 #[.val (.ref a1), .val (.ref a2), .val (.ref a3), .val (.ref a4), .val (.int p5)] [(.ref a1)])) _
    refine XS.aloadN X101.here hx rfl (hb hby dT_5) rfl rfl ?_
    show Steps p.tables e below (T101.setTop (mkF m 6 #[.val (.ref a1), .val (.ref a2), .val (.ref a3), .val (.ref a4), .val (.int p5)] [(.ref a2), (.ref a1)])) _
    refine st102 _ ?_
    show Steps p.tables e below (T102.setTop (mkF m 9 #[.val (.ref a1), .val (.ref a2), .val (.ref a3), .val (.ref a4), .val (.int p5)] [])) _
    refine XS.aloadN X102.here hx rfl (hb hby dT_9) rfl rfl ?_
    show Steps p.tables e below (T102.setTop (mkF m 10 #[.val (.ref a1), .val (.ref a2), .val (.ref a3), .val (.ref a4), .val (.int p5)] [(.ref a1)])) _
    refine XS.aloadN X102.here hx rfl (hb hby dT_10) rfl rfl ?_
    show Steps p.tables e below (T102.setTop (mkF m 11 #[.val (.ref a1), .val (.ref a2), .val (.ref a3), .val (.ref a4), .val (.int p5)] [(.ref a3), (.ref a1)])) _
    refine st104 _ ?_
    show Steps p.tables e below (T104.setTop (mkF m 14 #[.val (.ref a1), .val (.ref a2), .val (.ref a3), .val (.ref a4), .val (.int p5)] [])) _
    refine XS.aloadN X104.here hx rfl (hb hby dT_14) rfl rfl ?_
    show Steps p.tables e below (T104.setTop (mkF m 15 #[.val (.ref a1), .val (.ref a2), .val (.ref a3), .val (.ref a4), .val (.int p5)] [(.ref a1)])) _
    refine XS.aloadN X104.here hx rfl (hb hby dT_15) rfl rfl ?_
    show Steps p.tables e below (T104.setTop (mkF m 16 #[.val (.ref a1), .val (.ref a2), .val (.ref a3), .val (.ref a4), .val (.int p5)] [(.ref a4), (.ref a1)])) _
    refine st108 _ ?_
    show Steps p.tables e below (T108.setTop (mkF m 19 #[.val (.ref a1), .val (.ref a2), .val (.ref a3), .val (.ref a4), .val (.int p5)] [])) _
    refine XS.aloadN X108.here hx rfl (hb hby dT_19) rfl rfl ?_
    show Steps p.tables e below (T108.setTop (mkF m 20 #[.val (.ref a1), .val (.ref a2), .val (.ref a3), .val (.ref a4), .val (.int p5)] [(.ref a1)])) _
    refine XS.iload X108.here hx rfl (hb hby dT_20) rfl ?_
    show Steps p.tables e below (T108.setTop (mkF m 22 #[.val (.ref a1), .val (.ref a2), .val (.ref a3), .val (.ref a4), .val (.int p5)] [(.int p5), (.ref a1)])) _
    refine st112 _ ?_
    show Steps p.tables e below (T112.setTop (mkF m 25 #[.val (.ref a1), .val (.ref a2), .val (.ref a3), .val (.ref a4), .val (.int p5)] [])) _
    exact X112.returnOut hx Bd.returns (hb hby dT_25) hr
  · show QT Z a1 a2 a3 h0 n0 _ T112.heap _
    rw [e112]
    exact ⟨rfl, N112, KH115, E_a1_116, F_eKind_a1_117, F_sText_a1_118⟩
theorem dI_0 : decode prog_64_method_2_code 0 = .ok (.aload_n 0, 1) := by decide +kernel
theorem dI_1 : decode prog_64_method_2_code 1 = .ok (.getfield 7, 3) := by decide +kernel
theorem dI_4 : decode prog_64_method_2_code 4 = .ok (.aload_n 1, 1) := by decide +kernel
theorem dI_5 : decode prog_64_method_2_code 5 = .ok (.if_acmp .ne 18, 3) := by decide +kernel
theorem dI_8 : decode prog_64_method_2_code 8 = .ok (.aload_n 0, 1) := by decide +kernel
theorem dI_9 : decode prog_64_method_2_code 9 = .ok (.getfield 13, 3) := by decide +kernel
theorem dI_12 : decode prog_64_method_2_code 12 = .ok (.aload_n 2, 1) := by decide +kernel
theorem dI_13 : decode prog_64_method_2_code 13 = .ok (.invokevirtual 25, 3) := by decide +kernel
theorem dI_16 : decode prog_64_method_2_code 16 = .ok (.ifCond .eq 7, 3) := by decide +kernel
theorem dI_19 : decode prog_64_method_2_code 19 = .ok (.iconst 1, 1) := by decide +kernel
theorem dI_20 : decode prog_64_method_2_code 20 = .ok (.goto 4, 3) := by decide +kernel
theorem dI_23 : decode prog_64_method_2_code 23 = .ok (.iconst 0, 1) := by decide +kernel
theorem dI_24 : decode prog_64_method_2_code 24 = .ok (.ireturn, 1) := by decide +kernel
theorem efI (m : MethodId) (x0 : Addr) (x1 : Addr) (x2 : Addr) : entryFrame m #[(.ref x0), (.ref x1), (.ref x2)] 3 = mkF m 0 #[.val (.ref x0), .val (.ref x1), .val (.ref x2)] [] := by first | (simp [entryFrame, mkF, argsToLocals, Value.category]; done) | rfl
def QI (r : Int32) (h0 : Heap) (n0 : Nat) (v : Option Value) (h : Heap) (L : List Loc) : Prop := v = some (.int r) ∧ Fr n0 L ∧ h = h0
set_option maxRecDepth 65536 in
set_option maxHeartbeats 40000000 in
theorem rmI_n (l : Launch) (Z : State) (a0 : Array Value) (hw : ∀ d ∈ tables_1, d.before a0 Z = true) (ws : List Jvm.Cond) (a1 k1 k2 x t y u : Addr) (kt ku : ClassId) (cs ds : List Int32) (G1 : Int32) (h0 : Heap) (n0 : Nat) (F1 : Fld Z h0 a1 "com/example/tramway/tramway/idl/Token" "eKind" "Lcom/example/tramway/tramway/idl/Token$Kind;" (.ref k1)) (F2 : Fld Z h0 a1 "com/example/tramway/tramway/idl/Token" "sText" "Ljava/lang/String;" (.ref x)) (E1 : Exa Z h0 x "java/lang/String") (V1 : Fld Z h0 x "java/lang/String" "value" "[B" (.ref t)) (C1 : Fld Z h0 x "java/lang/String" "coder" "B" (.int (0 : Int32))) (A1 : Arv Z h0 t kt .byte (Int32.ofNat cs.length) ((cs.map (fun c => c.toInt8.toInt32)).map Value.int) (.int (0 : Int32))) (hp1 : ∀ c ∈ cs, ¬ c < 0 ∧ ¬ (255 : Int32) < c) (hl1 : cs.length ≤ 4000) (E2 : Exa Z h0 y "java/lang/String") (V2 : Fld Z h0 y "java/lang/String" "value" "[B" (.ref u)) (C2 : Fld Z h0 y "java/lang/String" "coder" "B" (.int (0 : Int32))) (A2 : Arv Z h0 u ku .byte (Int32.ofNat ds.length) ((ds.map (fun c => c.toInt8.toInt32)).map Value.int) (.int (0 : Int32))) (hp2 : ∀ c ∈ ds, ¬ c < 0 ∧ ¬ (255 : Int32) < c) (hl2 : ds.length ≤ 4000) (S2 : Sta Z h0 "java/lang/String" "COMPACT_STRINGS" "Z" (.int G1)) (P5 : ¬ (G1 = (0 : Int32))) (qk : ¬ (k1 = k2)) :
    MetFree l (⟨"com/example/tramway/tramway/idl/Token", "is", "(Lcom/example/tramway/tramway/idl/Token$Kind;Ljava/lang/String;)Z"⟩ : MethodName) (head1 (Jvm.Cond.code (⟨"com/example/tramway/tramway/idl/Token", "is", "(Lcom/example/tramway/tramway/idl/Token$Kind;Ljava/lang/String;)Z"⟩ : MethodName) prog_64_method_2_code 3 (some .boolean) :: ws) ({ frames := 2, cells := 0, slots := 0, locals := 28 } : Room)) (fun a U => a = #[(.ref a1), (.ref k2), (.ref y)] ∧ Z.Warmed39 U.vm ∧ U.heap = h0) (fun _ _ _ _ _ => True) (fun _ U o U' => ∃ v L, o = .returned v ∧ QI 0 h0 n0 v U'.heap L ∧ FrameEnd U o U' L ({ frames := 2, cells := 0, slots := 0, locals := 28 } : Room).cells ({ frames := 2, cells := 0, slots := 0, locals := 28 } : Room).slots) := by
  refine MetFree.of_bodySF (plainFor_of_name pnT) hisR ?_
  intro p e s m args below meth c s₁ Bd hml0 hP hK
  obtain ⟨rfl, hZ, hh⟩ := hP
  have hx := Bd.exec
  have hby := Bd.bytes
  have hml : c.maxLocals = 3 := hml0
  have hown : s.vm.findClass "com/example/tramway/tramway/idl/Token" = some m.cls := findClass_of_methodNamed Bd.named
  have hnm := (name_of_methodNamed Bd.named Bd.method).1
  have X0 : Stand p l e ({ frames := 2, cells := 0, slots := 0, locals := 28 } : Room) s m #[(.ref a1), (.ref k2), (.ref y)] below meth c s₁ [] 0 0 := Stand.of_body Bd
  have e0 : s₁.heap = h0 := by rw [← hh, Bd.state]; rfl
  have N0 := Fr.nil n0
  have go0 : ∀ t, Steps p.tables e below (s₁.setTop (mkF m 0 #[.val (.ref a1), .val (.ref k2), .val (.ref y)] [])) t → Steps p.tables e below (s₁.setTop (entryFrame m #[(.ref a1), (.ref k2), (.ref y)] 3)) t := fun t k => castTop (efI m a1 k2 y) k
  obtain ⟨T101, X101, e101, st101⟩ := getF X0 hx hZ hown (host := "") (Or.inl (hw _ (List.mem_of_getElem? (i := 56) rfl))) Via.refl e0 F1 (g := (mkF m 1 #[.val (.ref a1), .val (.ref k2), .val (.ref y)] [(.ref a1)])) rfl rfl (hb hby dI_1)
  obtain ⟨fs, hr, hrun, hended, hW, hsame⟩ := X101.leave (v := some (.int (0 : Int32))) (fun h => by rw [Bd.returns] at h; cases h)
  refine ⟨_, _, go0 _ ?_, hrun, hended, _, _, rfl, ?_, ⟨_, rfl⟩, hW, hsame.mono (by decide) (by decide)⟩
  · show Steps p.tables e below (s₁.setTop (mkF m 0 #[.val (.ref a1), .val (.ref k2), .val (.ref y)] [])) _
    refine XS.aloadN X0.here hx rfl (hb hby dI_0) rfl rfl ?_
    show Steps p.tables e below (s₁.setTop (mkF m 1 #[.val (.ref a1), .val (.ref k2), .val (.ref y)] [(.ref a1)])) _
    refine st101 _ ?_
    show Steps p.tables e below (T101.setTop (mkF m 4 #[.val (.ref a1), .val (.ref k2), .val (.ref y)] [(.ref k1)])) _
    refine XS.aloadN X101.here hx rfl (hb hby dI_4) rfl rfl ?_
    show Steps p.tables e below (T101.setTop (mkF m 5 #[.val (.ref a1), .val (.ref k2), .val (.ref y)] [(.ref k2), (.ref k1)])) _
    refine Jvm.RoadKit.acmp (g := (mkF m 5 #[.val (.ref a1), .val (.ref k2), .val (.ref y)] [(.ref k2), (.ref k1)])) X101 hx rfl rfl rfl (pc0 := 5) (pc' := 23) (same := false) rfl (hb hby dI_5) rfl (decide_eq_false fun q => qk (Value.ref.inj q)) (by decide) (by decide) ?_
    show Steps p.tables e below (T101.setTop (mkF m 23 #[.val (.ref a1), .val (.ref k2), .val (.ref y)] [])) _
    refine XS.iconst X101.here hx rfl (hb hby dI_23) ?_
    show Steps p.tables e below (T101.setTop (mkF m 24 #[.val (.ref a1), .val (.ref k2), .val (.ref y)] [(.int (0 : Int32))])) _
    exact retN X101 hx (t := .boolean) Bd.returns (by simp) (hb hby dI_24) hr
  · show QI 0 h0 n0 _ T101.heap _
    rw [e101]
    exact ⟨rfl, N0, rfl⟩
set_option maxRecDepth 65536 in
set_option maxHeartbeats 40000000 in
theorem rmI_y (l : Launch) (Z : State) (a0 : Array Value) (hw : ∀ d ∈ tables_1, d.before a0 Z = true) (ws : List Jvm.Cond) (a1 k1 k2 x t y u : Addr) (kt ku : ClassId) (cs ds : List Int32) (G1 : Int32) (h0 : Heap) (n0 : Nat) (F1 : Fld Z h0 a1 "com/example/tramway/tramway/idl/Token" "eKind" "Lcom/example/tramway/tramway/idl/Token$Kind;" (.ref k1)) (F2 : Fld Z h0 a1 "com/example/tramway/tramway/idl/Token" "sText" "Ljava/lang/String;" (.ref x)) (E1 : Exa Z h0 x "java/lang/String") (V1 : Fld Z h0 x "java/lang/String" "value" "[B" (.ref t)) (C1 : Fld Z h0 x "java/lang/String" "coder" "B" (.int (0 : Int32))) (A1 : Arv Z h0 t kt .byte (Int32.ofNat cs.length) ((cs.map (fun c => c.toInt8.toInt32)).map Value.int) (.int (0 : Int32))) (hp1 : ∀ c ∈ cs, ¬ c < 0 ∧ ¬ (255 : Int32) < c) (hl1 : cs.length ≤ 4000) (E2 : Exa Z h0 y "java/lang/String") (V2 : Fld Z h0 y "java/lang/String" "value" "[B" (.ref u)) (C2 : Fld Z h0 y "java/lang/String" "coder" "B" (.int (0 : Int32))) (A2 : Arv Z h0 u ku .byte (Int32.ofNat ds.length) ((ds.map (fun c => c.toInt8.toInt32)).map Value.int) (.int (0 : Int32))) (hp2 : ∀ c ∈ ds, ¬ c < 0 ∧ ¬ (255 : Int32) < c) (hl2 : ds.length ≤ 4000) (S2 : Sta Z h0 "java/lang/String" "COMPACT_STRINGS" "Z" (.int G1)) (P5 : ¬ (G1 = (0 : Int32))) (qk : k1 = k2) (qc : cs = ds) :
    MetFree l (⟨"com/example/tramway/tramway/idl/Token", "is", "(Lcom/example/tramway/tramway/idl/Token$Kind;Ljava/lang/String;)Z"⟩ : MethodName) (head1 (Jvm.Cond.code (⟨"com/example/tramway/tramway/idl/Token", "is", "(Lcom/example/tramway/tramway/idl/Token$Kind;Ljava/lang/String;)Z"⟩ : MethodName) prog_64_method_2_code 3 (some .boolean) :: ws) ({ frames := 2, cells := 0, slots := 0, locals := 28 } : Room)) (fun a U => a = #[(.ref a1), (.ref k2), (.ref y)] ∧ Z.Warmed39 U.vm ∧ U.heap = h0) (fun _ _ _ _ _ => True) (fun _ U o U' => ∃ v L, o = .returned v ∧ QI 1 h0 n0 v U'.heap L ∧ FrameEnd U o U' L ({ frames := 2, cells := 0, slots := 0, locals := 28 } : Room).cells ({ frames := 2, cells := 0, slots := 0, locals := 28 } : Room).slots) := by
  refine MetFree.of_bodySF (plainFor_of_name pnT) hisR ?_
  intro p e s m args below meth c s₁ Bd hml0 hP hK
  obtain ⟨rfl, hZ, hh⟩ := hP
  have hx := Bd.exec
  have hby := Bd.bytes
  have hml : c.maxLocals = 3 := hml0
  have hown : s.vm.findClass "com/example/tramway/tramway/idl/Token" = some m.cls := findClass_of_methodNamed Bd.named
  have hnm := (name_of_methodNamed Bd.named Bd.method).1
  have X0 : Stand p l e ({ frames := 2, cells := 0, slots := 0, locals := 28 } : Room) s m #[(.ref a1), (.ref k2), (.ref y)] below meth c s₁ [] 0 0 := Stand.of_body Bd
  have e0 : s₁.heap = h0 := by rw [← hh, Bd.state]; rfl
  have N0 := Fr.nil n0
  have go0 : ∀ t, Steps p.tables e below (s₁.setTop (mkF m 0 #[.val (.ref a1), .val (.ref k2), .val (.ref y)] [])) t → Steps p.tables e below (s₁.setTop (entryFrame m #[(.ref a1), (.ref k2), (.ref y)] 3)) t := fun t k => castTop (efI m a1 k2 y) k
  obtain ⟨T101, X101, e101, st101⟩ := getF X0 hx hZ hown (host := "") (Or.inl (hw _ (List.mem_of_getElem? (i := 56) rfl))) Via.refl e0 F1 (g := (mkF m 1 #[.val (.ref a1), .val (.ref k2), .val (.ref y)] [(.ref a1)])) rfl rfl (hb hby dI_1)
  obtain ⟨T102, X102, e102, st102⟩ := getF X101 hx hZ hown (host := "") (Or.inl (hw _ (List.mem_of_getElem? (i := 58) rfl))) Via.refl e101 F2 (g := (mkF m 9 #[.val (.ref a1), .val (.ref k2), .val (.ref y)] [(.ref a1)])) rfl rfl (hb hby dI_9)
  have heq : ∀ d ∈ StrChars.Road.wordsEq, d.before a0 Z = true := fun d hd => hw d ((by decide +kernel : ∀ d ∈ StrChars.Road.wordsEq, d ∈ tables_1) d hd)
  obtain ⟨cq103, kq103, q103a, q103b, q103c⟩ := isOf hZ e102 E1
  obtain ⟨_, _, ⟨T103, L103, kk103, nn103⟩, -, X103, ⟨Lc103, hQ103, l103, y103, z103⟩, st103⟩ := X102.virtualBack hx (y := (⟨"java/lang/String", "equals", "(Ljava/lang/Object;)Z"⟩ : MethodName)) (z := (⟨"java/lang/String", "equals", "(Ljava/lang/Object;)Z"⟩ : MethodName)) hown (mvT hZ (hw _ (List.mem_of_getElem? (i := 69) rfl))) (mvT hZ (hw _ (List.mem_of_getElem? (i := 70) rfl))) (notFace_of_selects (args := #[]) (mvT hZ (hw _ (List.mem_of_getElem? (i := 72) rfl)))) (mvT hZ (hw _ (List.mem_of_getElem? (i := 72) rfl))) (mvT hZ (hw _ (List.mem_of_getElem? (i := 71) rfl))) (by decide) (StrChars.Road.eqW (W := 0) hZ heq (kI := 4) (hw _ (List.mem_of_getElem? (i := 6) rfl)) E1 V1 C1 A1 (StrChars.Road.codOf rfl (fun c hc => (hp1 c hc).2)) (own_up _ hp1) hl1 E2 V2 C2 A2 (StrChars.Road.codOf rfl (fun c hc => (hp2 c hc).2)) (own_up _ hp2) hl2 S2 P5 (by decide) (by decide)) q103a q103c (g := (mkF m 13 #[.val (.ref a1), .val (.ref k2), .val (.ref y)] [(.ref y), (.ref x)])) rfl (by rw [hml]; rfl) (Steps.refl _) (argsL := [(.ref y)]) (rest := []) (lenOf pd__Ljava_lang_Object__Z rfl) rfl (by show 2 * 0 + _ ≤ _; exact Nat.le_of_eq rfl) (hb hby dI_13) (fun _ _ => ⟨rfl, e102, Nat.le_of_ble_eq_true rfl, Nat.le_of_ble_eq_true rfl⟩)
  dsimp only [Pt.U, Pt.locs, Pt.cells, Pt.slots] at X103 l103 y103 z103 st103 hQ103
  subst l103 y103 z103
  obtain ⟨⟨rfl, -⟩ | ⟨-, hno103⟩, rfl, e103⟩ := hQ103
  rotate_left
  · exact absurd qc hno103
  have Nq103 : Fr n0 ([] : List Loc) := Fr.nil n0
  have N103 := Fr.app N0 Nq103
  obtain ⟨fs, hr, hrun, hended, hW, hsame⟩ := X103.leave (v := some (.int (1 : Int32))) (fun h => by rw [Bd.returns] at h; cases h)
  refine ⟨_, _, go0 _ ?_, hrun, hended, _, _, rfl, ?_, ⟨_, rfl⟩, hW, hsame.mono (by decide) (by decide)⟩
  · show Steps p.tables e below (s₁.setTop (mkF m 0 #[.val (.ref a1), .val (.ref k2), .val (.ref y)] [])) _
    refine XS.aloadN X0.here hx rfl (hb hby dI_0) rfl rfl ?_
    show Steps p.tables e below (s₁.setTop (mkF m 1 #[.val (.ref a1), .val (.ref k2), .val (.ref y)] [(.ref a1)])) _
    refine st101 _ ?_
    show Steps p.tables e below (T101.setTop (mkF m 4 #[.val (.ref a1), .val (.ref k2), .val (.ref y)] [(.ref k1)])) _
    refine XS.aloadN X101.here hx rfl (hb hby dI_4) rfl rfl ?_
    show Steps p.tables e below (T101.setTop (mkF m 5 #[.val (.ref a1), .val (.ref k2), .val (.ref y)] [(.ref k2), (.ref k1)])) _
    refine Jvm.RoadKit.acmp (g := (mkF m 5 #[.val (.ref a1), .val (.ref k2), .val (.ref y)] [(.ref k2), (.ref k1)])) X101 hx rfl rfl rfl (pc0 := 5) (pc' := 8) (same := true) rfl (hb hby dI_5) rfl (decide_eq_true (congrArg Value.ref qk)) (by decide) (by decide) ?_
    show Steps p.tables e below (T101.setTop (mkF m 8 #[.val (.ref a1), .val (.ref k2), .val (.ref y)] [])) _
    refine XS.aloadN X101.here hx rfl (hb hby dI_8) rfl rfl ?_
    show Steps p.tables e below (T101.setTop (mkF m 9 #[.val (.ref a1), .val (.ref k2), .val (.ref y)] [(.ref a1)])) _
    refine st102 _ ?_
    show Steps p.tables e below (T102.setTop (mkF m 12 #[.val (.ref a1), .val (.ref k2), .val (.ref y)] [(.ref x)])) _
    refine XS.aloadN X102.here hx rfl (hb hby dI_12) rfl rfl ?_
    show Steps p.tables e below (T102.setTop (mkF m 13 #[.val (.ref a1), .val (.ref k2), .val (.ref y)] [(.ref y), (.ref x)])) _
    refine st103.trans ?_
    show Steps p.tables e below (T103.setTop (mkF m 16 #[.val (.ref a1), .val (.ref k2), .val (.ref y)] [(.int (1 : Int32))])) _
    refine XS.ifNo X103.here hx rfl (hb hby dI_16) rfl ((if0 _ _).trans (feq ((by decide) : ¬ ((1 : Int32) = (0 : Int32)))).1) ?_
    show Steps p.tables e below (T103.setTop (mkF m 19 #[.val (.ref a1), .val (.ref k2), .val (.ref y)] [])) _
    refine XS.iconst X103.here hx rfl (hb hby dI_19) ?_
    show Steps p.tables e below (T103.setTop (mkF m 20 #[.val (.ref a1), .val (.ref k2), .val (.ref y)] [(.int (1 : Int32))])) _
    refine XS.goto X103.here hx rfl (pc0 := 20) (pc' := 24) rfl (hb hby dI_20) (by decide) (by decide) ?_
    show Steps p.tables e below (T103.setTop (mkF m 24 #[.val (.ref a1), .val (.ref k2), .val (.ref y)] [(.int (1 : Int32))])) _
    exact retN X103 hx (t := .boolean) Bd.returns (by simp) (hb hby dI_24) hr
  · show QI 1 h0 n0 _ T103.heap _
    rw [e103]
    exact ⟨rfl, N103, rfl⟩
set_option maxRecDepth 65536 in
set_option maxHeartbeats 40000000 in
theorem rmI_z (l : Launch) (Z : State) (a0 : Array Value) (hw : ∀ d ∈ tables_1, d.before a0 Z = true) (ws : List Jvm.Cond) (a1 k1 k2 x t y u : Addr) (kt ku : ClassId) (cs ds : List Int32) (G1 : Int32) (h0 : Heap) (n0 : Nat) (F1 : Fld Z h0 a1 "com/example/tramway/tramway/idl/Token" "eKind" "Lcom/example/tramway/tramway/idl/Token$Kind;" (.ref k1)) (F2 : Fld Z h0 a1 "com/example/tramway/tramway/idl/Token" "sText" "Ljava/lang/String;" (.ref x)) (E1 : Exa Z h0 x "java/lang/String") (V1 : Fld Z h0 x "java/lang/String" "value" "[B" (.ref t)) (C1 : Fld Z h0 x "java/lang/String" "coder" "B" (.int (0 : Int32))) (A1 : Arv Z h0 t kt .byte (Int32.ofNat cs.length) ((cs.map (fun c => c.toInt8.toInt32)).map Value.int) (.int (0 : Int32))) (hp1 : ∀ c ∈ cs, ¬ c < 0 ∧ ¬ (255 : Int32) < c) (hl1 : cs.length ≤ 4000) (E2 : Exa Z h0 y "java/lang/String") (V2 : Fld Z h0 y "java/lang/String" "value" "[B" (.ref u)) (C2 : Fld Z h0 y "java/lang/String" "coder" "B" (.int (0 : Int32))) (A2 : Arv Z h0 u ku .byte (Int32.ofNat ds.length) ((ds.map (fun c => c.toInt8.toInt32)).map Value.int) (.int (0 : Int32))) (hp2 : ∀ c ∈ ds, ¬ c < 0 ∧ ¬ (255 : Int32) < c) (hl2 : ds.length ≤ 4000) (S2 : Sta Z h0 "java/lang/String" "COMPACT_STRINGS" "Z" (.int G1)) (P5 : ¬ (G1 = (0 : Int32))) (qk : k1 = k2) (qc : ¬ (cs = ds)) :
    MetFree l (⟨"com/example/tramway/tramway/idl/Token", "is", "(Lcom/example/tramway/tramway/idl/Token$Kind;Ljava/lang/String;)Z"⟩ : MethodName) (head1 (Jvm.Cond.code (⟨"com/example/tramway/tramway/idl/Token", "is", "(Lcom/example/tramway/tramway/idl/Token$Kind;Ljava/lang/String;)Z"⟩ : MethodName) prog_64_method_2_code 3 (some .boolean) :: ws) ({ frames := 2, cells := 0, slots := 0, locals := 28 } : Room)) (fun a U => a = #[(.ref a1), (.ref k2), (.ref y)] ∧ Z.Warmed39 U.vm ∧ U.heap = h0) (fun _ _ _ _ _ => True) (fun _ U o U' => ∃ v L, o = .returned v ∧ QI 0 h0 n0 v U'.heap L ∧ FrameEnd U o U' L ({ frames := 2, cells := 0, slots := 0, locals := 28 } : Room).cells ({ frames := 2, cells := 0, slots := 0, locals := 28 } : Room).slots) := by
  refine MetFree.of_bodySF (plainFor_of_name pnT) hisR ?_
  intro p e s m args below meth c s₁ Bd hml0 hP hK
  obtain ⟨rfl, hZ, hh⟩ := hP
  have hx := Bd.exec
  have hby := Bd.bytes
  have hml : c.maxLocals = 3 := hml0
  have hown : s.vm.findClass "com/example/tramway/tramway/idl/Token" = some m.cls := findClass_of_methodNamed Bd.named
  have hnm := (name_of_methodNamed Bd.named Bd.method).1
  have X0 : Stand p l e ({ frames := 2, cells := 0, slots := 0, locals := 28 } : Room) s m #[(.ref a1), (.ref k2), (.ref y)] below meth c s₁ [] 0 0 := Stand.of_body Bd
  have e0 : s₁.heap = h0 := by rw [← hh, Bd.state]; rfl
  have N0 := Fr.nil n0
  have go0 : ∀ t, Steps p.tables e below (s₁.setTop (mkF m 0 #[.val (.ref a1), .val (.ref k2), .val (.ref y)] [])) t → Steps p.tables e below (s₁.setTop (entryFrame m #[(.ref a1), (.ref k2), (.ref y)] 3)) t := fun t k => castTop (efI m a1 k2 y) k
  obtain ⟨T101, X101, e101, st101⟩ := getF X0 hx hZ hown (host := "") (Or.inl (hw _ (List.mem_of_getElem? (i := 56) rfl))) Via.refl e0 F1 (g := (mkF m 1 #[.val (.ref a1), .val (.ref k2), .val (.ref y)] [(.ref a1)])) rfl rfl (hb hby dI_1)
  obtain ⟨T102, X102, e102, st102⟩ := getF X101 hx hZ hown (host := "") (Or.inl (hw _ (List.mem_of_getElem? (i := 58) rfl))) Via.refl e101 F2 (g := (mkF m 9 #[.val (.ref a1), .val (.ref k2), .val (.ref y)] [(.ref a1)])) rfl rfl (hb hby dI_9)
  have heq : ∀ d ∈ StrChars.Road.wordsEq, d.before a0 Z = true := fun d hd => hw d ((by decide +kernel : ∀ d ∈ StrChars.Road.wordsEq, d ∈ tables_1) d hd)
  obtain ⟨cq103, kq103, q103a, q103b, q103c⟩ := isOf hZ e102 E1
  obtain ⟨_, _, ⟨T103, L103, kk103, nn103⟩, -, X103, ⟨Lc103, hQ103, l103, y103, z103⟩, st103⟩ := X102.virtualBack hx (y := (⟨"java/lang/String", "equals", "(Ljava/lang/Object;)Z"⟩ : MethodName)) (z := (⟨"java/lang/String", "equals", "(Ljava/lang/Object;)Z"⟩ : MethodName)) hown (mvT hZ (hw _ (List.mem_of_getElem? (i := 69) rfl))) (mvT hZ (hw _ (List.mem_of_getElem? (i := 70) rfl))) (notFace_of_selects (args := #[]) (mvT hZ (hw _ (List.mem_of_getElem? (i := 72) rfl)))) (mvT hZ (hw _ (List.mem_of_getElem? (i := 72) rfl))) (mvT hZ (hw _ (List.mem_of_getElem? (i := 71) rfl))) (by decide) (StrChars.Road.eqW (W := 0) hZ heq (kI := 4) (hw _ (List.mem_of_getElem? (i := 6) rfl)) E1 V1 C1 A1 (StrChars.Road.codOf rfl (fun c hc => (hp1 c hc).2)) (own_up _ hp1) hl1 E2 V2 C2 A2 (StrChars.Road.codOf rfl (fun c hc => (hp2 c hc).2)) (own_up _ hp2) hl2 S2 P5 (by decide) (by decide)) q103a q103c (g := (mkF m 13 #[.val (.ref a1), .val (.ref k2), .val (.ref y)] [(.ref y), (.ref x)])) rfl (by rw [hml]; rfl) (Steps.refl _) (argsL := [(.ref y)]) (rest := []) (lenOf pd__Ljava_lang_Object__Z rfl) rfl (by show 2 * 0 + _ ≤ _; exact Nat.le_of_eq rfl) (hb hby dI_13) (fun _ _ => ⟨rfl, e102, Nat.le_of_ble_eq_true rfl, Nat.le_of_ble_eq_true rfl⟩)
  dsimp only [Pt.U, Pt.locs, Pt.cells, Pt.slots] at X103 l103 y103 z103 st103 hQ103
  subst l103 y103 z103
  obtain ⟨⟨-, hye103⟩ | ⟨rfl, -⟩, rfl, e103⟩ := hQ103
  · exact absurd hye103 qc
  have Nq103 : Fr n0 ([] : List Loc) := Fr.nil n0
  have N103 := Fr.app N0 Nq103
  obtain ⟨fs, hr, hrun, hended, hW, hsame⟩ := X103.leave (v := some (.int (0 : Int32))) (fun h => by rw [Bd.returns] at h; cases h)
  refine ⟨_, _, go0 _ ?_, hrun, hended, _, _, rfl, ?_, ⟨_, rfl⟩, hW, hsame.mono (by decide) (by decide)⟩
  · show Steps p.tables e below (s₁.setTop (mkF m 0 #[.val (.ref a1), .val (.ref k2), .val (.ref y)] [])) _
    refine XS.aloadN X0.here hx rfl (hb hby dI_0) rfl rfl ?_
    show Steps p.tables e below (s₁.setTop (mkF m 1 #[.val (.ref a1), .val (.ref k2), .val (.ref y)] [(.ref a1)])) _
    refine st101 _ ?_
    show Steps p.tables e below (T101.setTop (mkF m 4 #[.val (.ref a1), .val (.ref k2), .val (.ref y)] [(.ref k1)])) _
    refine XS.aloadN X101.here hx rfl (hb hby dI_4) rfl rfl ?_
    show Steps p.tables e below (T101.setTop (mkF m 5 #[.val (.ref a1), .val (.ref k2), .val (.ref y)] [(.ref k2), (.ref k1)])) _
    refine Jvm.RoadKit.acmp (g := (mkF m 5 #[.val (.ref a1), .val (.ref k2), .val (.ref y)] [(.ref k2), (.ref k1)])) X101 hx rfl rfl rfl (pc0 := 5) (pc' := 8) (same := true) rfl (hb hby dI_5) rfl (decide_eq_true (congrArg Value.ref qk)) (by decide) (by decide) ?_
    show Steps p.tables e below (T101.setTop (mkF m 8 #[.val (.ref a1), .val (.ref k2), .val (.ref y)] [])) _
    refine XS.aloadN X101.here hx rfl (hb hby dI_8) rfl rfl ?_
    show Steps p.tables e below (T101.setTop (mkF m 9 #[.val (.ref a1), .val (.ref k2), .val (.ref y)] [(.ref a1)])) _
    refine st102 _ ?_
    show Steps p.tables e below (T102.setTop (mkF m 12 #[.val (.ref a1), .val (.ref k2), .val (.ref y)] [(.ref x)])) _
    refine XS.aloadN X102.here hx rfl (hb hby dI_12) rfl rfl ?_
    show Steps p.tables e below (T102.setTop (mkF m 13 #[.val (.ref a1), .val (.ref k2), .val (.ref y)] [(.ref y), (.ref x)])) _
    refine st103.trans ?_
    show Steps p.tables e below (T103.setTop (mkF m 16 #[.val (.ref a1), .val (.ref k2), .val (.ref y)] [(.int (0 : Int32))])) _
    refine XS.ifYes X103.here hx rfl (pc0 := 16) (pc' := 23) rfl (hb hby dI_16) rfl ((if0 _ _).trans (teq (rfl : (0 : Int32) = (0 : Int32))).1) (by decide) (by decide) ?_
    show Steps p.tables e below (T103.setTop (mkF m 23 #[.val (.ref a1), .val (.ref k2), .val (.ref y)] [])) _
    refine XS.iconst X103.here hx rfl (hb hby dI_23) ?_
    show Steps p.tables e below (T103.setTop (mkF m 24 #[.val (.ref a1), .val (.ref k2), .val (.ref y)] [(.int (0 : Int32))])) _
    exact retN X103 hx (t := .boolean) Bd.returns (by simp) (hb hby dI_24) hr
  · show QI 0 h0 n0 _ T103.heap _
    rw [e103]
    exact ⟨rfl, N103, rfl⟩
theorem rmI (l : Launch) (Z : State) (a0 : Array Value) (hw : ∀ d ∈ tables_1, d.before a0 Z = true) (ws : List Jvm.Cond) (a1 k1 k2 x t y u : Addr) (kt ku : ClassId) (cs ds : List Int32) (G1 : Int32) (h0 : Heap) (n0 : Nat) (F1 : Fld Z h0 a1 "com/example/tramway/tramway/idl/Token" "eKind" "Lcom/example/tramway/tramway/idl/Token$Kind;" (.ref k1)) (F2 : Fld Z h0 a1 "com/example/tramway/tramway/idl/Token" "sText" "Ljava/lang/String;" (.ref x)) (E1 : Exa Z h0 x "java/lang/String") (V1 : Fld Z h0 x "java/lang/String" "value" "[B" (.ref t)) (C1 : Fld Z h0 x "java/lang/String" "coder" "B" (.int (0 : Int32))) (A1 : Arv Z h0 t kt .byte (Int32.ofNat cs.length) ((cs.map (fun c => c.toInt8.toInt32)).map Value.int) (.int (0 : Int32))) (hp1 : ∀ c ∈ cs, ¬ c < 0 ∧ ¬ (255 : Int32) < c) (hl1 : cs.length ≤ 4000) (E2 : Exa Z h0 y "java/lang/String") (V2 : Fld Z h0 y "java/lang/String" "value" "[B" (.ref u)) (C2 : Fld Z h0 y "java/lang/String" "coder" "B" (.int (0 : Int32))) (A2 : Arv Z h0 u ku .byte (Int32.ofNat ds.length) ((ds.map (fun c => c.toInt8.toInt32)).map Value.int) (.int (0 : Int32))) (hp2 : ∀ c ∈ ds, ¬ c < 0 ∧ ¬ (255 : Int32) < c) (hl2 : ds.length ≤ 4000) (S2 : Sta Z h0 "java/lang/String" "COMPACT_STRINGS" "Z" (.int G1)) (P5 : ¬ (G1 = (0 : Int32))) :
    ∃ r : Int32, ((r = 1 ∧ k1 = k2 ∧ cs = ds) ∨ (r = 0 ∧ ¬ (k1 = k2 ∧ cs = ds))) ∧ MetFree l (⟨"com/example/tramway/tramway/idl/Token", "is", "(Lcom/example/tramway/tramway/idl/Token$Kind;Ljava/lang/String;)Z"⟩ : MethodName) (head1 (Jvm.Cond.code (⟨"com/example/tramway/tramway/idl/Token", "is", "(Lcom/example/tramway/tramway/idl/Token$Kind;Ljava/lang/String;)Z"⟩ : MethodName) prog_64_method_2_code 3 (some .boolean) :: ws) ({ frames := 2, cells := 0, slots := 0, locals := 28 } : Room)) (fun a U => a = #[(.ref a1), (.ref k2), (.ref y)] ∧ Z.Warmed39 U.vm ∧ U.heap = h0) (fun _ _ _ _ _ => True) (fun _ U o U' => ∃ v L, o = .returned v ∧ QI r h0 n0 v U'.heap L ∧ FrameEnd U o U' L ({ frames := 2, cells := 0, slots := 0, locals := 28 } : Room).cells ({ frames := 2, cells := 0, slots := 0, locals := 28 } : Room).slots) := by
  by_cases qk : k1 = k2
  · by_cases qc : cs = ds
    · exact ⟨1, Or.inl ⟨rfl, qk, qc⟩, rmI_y l Z a0 hw ws a1 k1 k2 x t y u kt ku cs ds G1 h0 n0 F1 F2 E1 V1 C1 A1 hp1 hl1 E2 V2 C2 A2 hp2 hl2 S2 P5 qk qc⟩
    · exact ⟨0, Or.inr ⟨rfl, fun q => qc q.2⟩, rmI_z l Z a0 hw ws a1 k1 k2 x t y u kt ku cs ds G1 h0 n0 F1 F2 E1 V1 C1 A1 hp1 hl1 E2 V2 C2 A2 hp2 hl2 S2 P5 qk qc⟩
  · exact ⟨0, Or.inr ⟨rfl, fun q => qk q.1⟩, rmI_n l Z a0 hw ws a1 k1 k2 x t y u kt ku cs ds G1 h0 n0 F1 F2 E1 V1 C1 A1 hp1 hl1 E2 V2 C2 A2 hp2 hl2 S2 P5 qk⟩
theorem own_rng17 (x : Int32) : 0 ≤ ((x &&& (2147483647 : Int32)) % (17 : Int32)).toInt ∧ ((x &&& (2147483647 : Int32)) % (17 : Int32)).toInt < 17 := by
  have h0 := (c_and x (2147483647 : Int32) (by decide)).1
  have h1 := (c_iremV (x &&& (2147483647 : Int32)) (17 : Int32)).1 h0 (by decide)
  have e : (17 : Int32).toInt = 17 := rfl
  omega
theorem own_nar2 (x : Int32) : nar .char ((x &&& (255 : Int32)).toUInt32.toUInt16.toUInt32.toInt32) = ((x &&& (255 : Int32)).toUInt32.toUInt16.toUInt32.toInt32) := by simp only [nar, UInt32.toUInt32_toInt32, UInt16.toUInt16_toUInt32]
theorem own_three {A B : Prop} : A ∨ (¬ A ∧ B) ∨ (¬ A ∧ ¬ B) := by
  by_cases a : A
  · exact Or.inl a
  · by_cases b : B
    · exact Or.inr (Or.inl ⟨a, b⟩)
    · exact Or.inr (Or.inr ⟨a, b⟩)
theorem own_eight {A B C D E : Prop} : (¬ A) ∨ (A ∧ ¬ B ∧ ¬ C) ∨ (A ∧ B ∧ D) ∨ (A ∧ B ∧ ¬ D ∧ ¬ E) ∨ (A ∧ B ∧ ¬ D ∧ E) ∨ (A ∧ ¬ B ∧ C ∧ D) ∨ (A ∧ ¬ B ∧ C ∧ ¬ D ∧ ¬ E) ∨ (A ∧ ¬ B ∧ C ∧ ¬ D ∧ E) := by
  by_cases a : A <;> by_cases b : B <;> by_cases c : C <;> by_cases d : D <;> by_cases e : E <;> simp [a, b, c, d, e]
theorem own_cl_len (l c0 c1 : Int32) : (own_cl l c0 c1).length ≤ 4000 := by
  unfold own_cl; split
  · simp
  · split <;> simp
theorem own_cl_rng {l c0 c1 : Int32} (b0 : ¬ nar .char c0 < 0 ∧ ¬ (255 : Int32) < nar .char c0) (b1 : ¬ nar .char c1 < 0 ∧ ¬ (255 : Int32) < nar .char c1) : ∀ c ∈ own_cl l c0 c1, ¬ c < 0 ∧ ¬ (255 : Int32) < c := by
  intro c hc
  unfold own_cl at hc
  split at hc
  · cases hc
  · split at hc
    · rcases List.mem_singleton.mp hc with rfl; exact b0
    · simp only [List.mem_cons, List.not_mem_nil, or_false] at hc
      rcases hc with rfl | rfl
      · exact b0
      · exact b1
theorem own_cl_eq {la lb c0 c1 d0 d1 : Int32} (n0 : nar .char c0 = c0) (n1 : nar .char c1 = c1) (m0 : nar .char d0 = d0) (m1 : nar .char d1 = d1) (ha : la = 0 ∨ la = 1 ∨ la = 2) (hb : lb = 0 ∨ lb = 1 ∨ lb = 2) : own_cl la c0 c1 = own_cl lb d0 d1 ↔ (la = lb ∧ (la < 1 ∨ c0 = d0) ∧ (la < 2 ∨ c1 = d1)) := by
  rcases ha with rfl | rfl | rfl <;> rcases hb with rfl | rfl | rfl <;> simp +decide [own_cl, n0, n1, m0, m1]
theorem own_kd_inj {Z : State} {a b : Addr} {i j : Int32} (F : Fld Z Z.heap a "java/lang/Enum" "ordinal" "I" (.int i)) (G : Fld Z Z.heap b "java/lang/Enum" "ordinal" "I" (.int j)) (h : i = j → a = b) : a = b ↔ i = j := by
  constructor
  · intro e
    by_cases q : i = j
    · exact q
    · exact absurd e (Fld.ne F G (fun z => q (Value.int.inj z)))
  · exact h
theorem own_plain {kx ky : Addr} {i1 i2 r sk st ex : Int32} {cs ds : List Int32} {T : Prop} (hk : kx = ky ↔ i1 = i2) (hc : cs = ds ↔ T) (hr : (r = 1 ∧ kx = ky ∧ cs = ds) ∨ (r = 0 ∧ ¬ (kx = ky ∧ cs = ds))) (hs : (i1 = i2 ∧ sk = 1) ∨ (¬ (i1 = i2) ∧ sk = 0)) (ht : (T ∧ st = 1) ∨ (¬ T ∧ st = 0)) (he : ((sk = 0 ∨ st = 0) ∧ ex = 0) ∨ (¬ (sk = 0) ∧ ¬ (st = 0) ∧ ex = 1)) : r = ex := by
  rw [hk, hc] at hr
  rcases hs with ⟨a, rfl⟩ | ⟨a, rfl⟩ <;> rcases ht with ⟨b, rfl⟩ | ⟨b, rfl⟩ <;> simp +decide [a, b] at hr he <;> rw [hr, he]
theorem own_mod3 (x : Int32) : ((x &&& (3 : Int32)) % (3 : Int32)) = 0 ∨ ((x &&& (3 : Int32)) % (3 : Int32)) = 1 ∨ ((x &&& (3 : Int32)) % (3 : Int32)) = 2 := by
  have t : ∀ k : Fin 4, (Int32.ofNat k.val % (3 : Int32)) = 0 ∨ (Int32.ofNat k.val % (3 : Int32)) = 1 ∨ (Int32.ofNat k.val % (3 : Int32)) = 2 := by decide +kernel
  have h : (x &&& 3).toBitVec.toNat < 4 := by
    simp only [Int32.toBitVec_and, BitVec.toNat_and]
    exact Nat.lt_succ_of_le Nat.and_le_right
  have e : (x &&& 3) = Int32.ofNat (x &&& 3).toBitVec.toNat := by
    apply Int32.toBitVec_inj.mp
    show _ = BitVec.ofNat 32 _
    rw [BitVec.ofNat_toNat]; simp
  rw [e]
  exact t ⟨_, h⟩
theorem own_ord {args : Array Value} {s : State} {C n d : String} {a : Addr} {k : Int32} (ht : (Term.static C n d).eval args s none [] s = some (.ref a)) (h : (Jvm.Cond.eq (Term.field (Term.static C n d) "java/lang/Enum" "ordinal" "I") (Term.int k)).value args s none s [] = some true) : Fld s s.heap a "java/lang/Enum" "ordinal" "I" (.int k) := by
  obtain ⟨x, y, e1, e2, k1, k2⟩ := cmp_v (Or.inl h)
  have e2' : y = .int k := Option.some.inj (e2.symm.trans (Term.int_eval k))
  subst e2'
  obtain ⟨z, rfl⟩ := k2
  have := gotT (Cond.eq_ints e1 e2) h
  subst this
  exact Fld.start ((fld_at ht).symm.trans e1)
theorem ef0 (m : MethodId) (x0 : Int32) (x1 : Int32) (x2 : Int32) (x3 : Int32) (x4 : Int32) (x5 : Int32) : entryFrame m #[(.int x0), (.int x1), (.int x2), (.int x3), (.int x4), (.int x5)] maxLocals = mkF m 0 #[.val (.int x0), .val (.int x1), .val (.int x2), .val (.int x3), .val (.int x4), .val (.int x5), .unset, .unset, .unset, .unset, .unset, .unset, .unset, .unset, .unset, .unset, .unset, .unset, .unset, .unset, .unset, .unset, .unset, .unset] [] := by first | (simp [entryFrame, mkF, argsToLocals, Value.category, maxLocals]; done) | rfl
def Q0 (h0 : Heap) (n0 : Nat) (v : Option Value) (h : Heap) (L : List Loc) : Prop := v = some (.int 1) ∧ Fr n0 L
set_option maxRecDepth 65536 in
set_option maxHeartbeats 40000000 in
theorem rm0 (l : Launch) (Z : State) (a0 : Array Value) (hw : ∀ d ∈ tables_1, d.before a0 Z = true) (ws : List Jvm.Cond) (p1 p2 p3 p4 p5 p6 G1 : Int32) (w0 w1 w2 w3 w4 w5 w6 w7 w8 w9 w10 w11 w12 w13 w14 w15 w16 : Addr) (h0 : Heap) (n0 : Nat) (Z0 : n0 ≤ h0.size) (O2 : Sta Z Z.heap "java/lang/String" "COMPACT_STRINGS" "Z" (.int G1)) (P5 : ¬ (G1 = (0 : Int32))) (X00 : Old Z n0 h0) (S0 : Sta Z Z.heap "com/example/tramway/tramway/idl/Token$Kind" "IDENTIFIER" "Lcom/example/tramway/tramway/idl/Token$Kind;" (.ref w0)) (S1 : Sta Z Z.heap "com/example/tramway/tramway/idl/Token$Kind" "INTEGER" "Lcom/example/tramway/tramway/idl/Token$Kind;" (.ref w1)) (S2 : Sta Z Z.heap "com/example/tramway/tramway/idl/Token$Kind" "FLOATING" "Lcom/example/tramway/tramway/idl/Token$Kind;" (.ref w2)) (S3 : Sta Z Z.heap "com/example/tramway/tramway/idl/Token$Kind" "CHARACTER" "Lcom/example/tramway/tramway/idl/Token$Kind;" (.ref w3)) (S4 : Sta Z Z.heap "com/example/tramway/tramway/idl/Token$Kind" "WIDE_CHARACTER" "Lcom/example/tramway/tramway/idl/Token$Kind;" (.ref w4)) (S5 : Sta Z Z.heap "com/example/tramway/tramway/idl/Token$Kind" "STRING" "Lcom/example/tramway/tramway/idl/Token$Kind;" (.ref w5)) (S6 : Sta Z Z.heap "com/example/tramway/tramway/idl/Token$Kind" "WIDE_STRING" "Lcom/example/tramway/tramway/idl/Token$Kind;" (.ref w6)) (S7 : Sta Z Z.heap "com/example/tramway/tramway/idl/Token$Kind" "PUNCTUATOR" "Lcom/example/tramway/tramway/idl/Token$Kind;" (.ref w7)) (S8 : Sta Z Z.heap "com/example/tramway/tramway/idl/Token$Kind" "NEWLINE" "Lcom/example/tramway/tramway/idl/Token$Kind;" (.ref w8)) (S9 : Sta Z Z.heap "com/example/tramway/tramway/idl/Token$Kind" "ERROR" "Lcom/example/tramway/tramway/idl/Token$Kind;" (.ref w9)) (S10 : Sta Z Z.heap "com/example/tramway/tramway/idl/Token$Kind" "FILE_START" "Lcom/example/tramway/tramway/idl/Token$Kind;" (.ref w10)) (S11 : Sta Z Z.heap "com/example/tramway/tramway/idl/Token$Kind" "FILE_END" "Lcom/example/tramway/tramway/idl/Token$Kind;" (.ref w11)) (S12 : Sta Z Z.heap "com/example/tramway/tramway/idl/Token$Kind" "PREFIX" "Lcom/example/tramway/tramway/idl/Token$Kind;" (.ref w12)) (S13 : Sta Z Z.heap "com/example/tramway/tramway/idl/Token$Kind" "PRAGMA_ID" "Lcom/example/tramway/tramway/idl/Token$Kind;" (.ref w13)) (S14 : Sta Z Z.heap "com/example/tramway/tramway/idl/Token$Kind" "PRAGMA_VERSION" "Lcom/example/tramway/tramway/idl/Token$Kind;" (.ref w14)) (S15 : Sta Z Z.heap "com/example/tramway/tramway/idl/Token$Kind" "PRAGMA_END" "Lcom/example/tramway/tramway/idl/Token$Kind;" (.ref w15)) (S16 : Sta Z Z.heap "com/example/tramway/tramway/idl/Token$Kind" "END_OF_INPUT" "Lcom/example/tramway/tramway/idl/Token$Kind;" (.ref w16)) (F0 : Fld Z Z.heap w0 "java/lang/Enum" "ordinal" "I" (.int (0 : Int32))) (F1 : Fld Z Z.heap w1 "java/lang/Enum" "ordinal" "I" (.int (1 : Int32))) (F2 : Fld Z Z.heap w2 "java/lang/Enum" "ordinal" "I" (.int (2 : Int32))) (F3 : Fld Z Z.heap w3 "java/lang/Enum" "ordinal" "I" (.int (3 : Int32))) (F4 : Fld Z Z.heap w4 "java/lang/Enum" "ordinal" "I" (.int (4 : Int32))) (F5 : Fld Z Z.heap w5 "java/lang/Enum" "ordinal" "I" (.int (5 : Int32))) (F6 : Fld Z Z.heap w6 "java/lang/Enum" "ordinal" "I" (.int (6 : Int32))) (F7 : Fld Z Z.heap w7 "java/lang/Enum" "ordinal" "I" (.int (7 : Int32))) (F8 : Fld Z Z.heap w8 "java/lang/Enum" "ordinal" "I" (.int (8 : Int32))) (F9 : Fld Z Z.heap w9 "java/lang/Enum" "ordinal" "I" (.int (9 : Int32))) (F10 : Fld Z Z.heap w10 "java/lang/Enum" "ordinal" "I" (.int (10 : Int32))) (F11 : Fld Z Z.heap w11 "java/lang/Enum" "ordinal" "I" (.int (11 : Int32))) (F12 : Fld Z Z.heap w12 "java/lang/Enum" "ordinal" "I" (.int (12 : Int32))) (F13 : Fld Z Z.heap w13 "java/lang/Enum" "ordinal" "I" (.int (13 : Int32))) (F14 : Fld Z Z.heap w14 "java/lang/Enum" "ordinal" "I" (.int (14 : Int32))) (F15 : Fld Z Z.heap w15 "java/lang/Enum" "ordinal" "I" (.int (15 : Int32))) (F16 : Fld Z Z.heap w16 "java/lang/Enum" "ordinal" "I" (.int (16 : Int32))) :
    MetFree l x (head1 (Jvm.Cond.code x code maxLocals ret :: ws) room_1) (fun a U => a = #[(.int p1), (.int p2), (.int p3), (.int p4), (.int p5), (.int p6)] ∧ Z.Warmed39 U.vm ∧ U.heap = h0 ∧ CHv Z own_EL U.vm h0) (fun _ _ _ _ _ => True) (fun _ U o U' => ∃ v L, o = .returned v ∧ Q0 h0 n0 v U'.heap L ∧ CHr Z own_EL U.vm U.heap U'.vm U'.heap ∧ ReturnedEndW U o U' L 32 1152) := by
  refine MetFree.of_bodySF (plainFor_of_name pnL) hisR ?_
  intro p e s m args below meth c s₁ Bd hml0 hP hK
  obtain ⟨rfl, hZ, hh, HC⟩ := hP
  have hx := Bd.exec
  have hby := Bd.bytes
  have hml : c.maxLocals = 24 := hml0
  have hown : s.vm.findClass "com/example/tramway/tramway/idl/TokenIsPinLaw" = some m.cls := findClass_of_methodNamed Bd.named
  have hnm := (name_of_methodNamed Bd.named Bd.method).1
  have X0 : Stand p l e room_1 (s.setVm s.vm) m #[(.int p1), (.int p2), (.int p3), (.int p4), (.int p5), (.int p6)] below meth c s₁ [] 0 0 := Stand.of_body Bd
  have e0 : s₁.heap = h0 := by rw [← hh, Bd.state]; rfl
  have N0 := Fr.nil n0
  have go0 : ∀ t, Steps p.tables e below (s₁.setTop (mkF m 0 #[.val (.int p1), .val (.int p2), .val (.int p3), .val (.int p4), .val (.int p5), .val (.int p6), .unset, .unset, .unset, .unset, .unset, .unset, .unset, .unset, .unset, .unset, .unset, .unset, .unset, .unset, .unset, .unset, .unset, .unset] [])) t → Steps p.tables e below (s₁.setTop (entryFrame m #[(.int p1), (.int p2), (.int p3), (.int p4), (.int p5), (.int p6)] maxLocals)) t := fun t k => castTop (ef0 m p1 p2 p3 p4 p5 p6) k
  have hEL : EW Z a0 own_EL := own_hEL hw
  have hsA : ∀ a ∈ Bundle.stringAtoms, a.before a0 Z = true := own_hsA hw
  have R0 : CHr Z own_EL s.vm h0 s.vm h0 := CHr.refl HC
  have hS0 : s.Since s.vm s.heap.size := (State.WarmedH.refl s).since _
  have hk0 : s.heap.size ≤ h0.size := Nat.le_of_eq (by rw [hh])
  have go101 : ∀ t, Steps p.tables e below (s₁.setTop (mkF m 7 #[.val (.int p1), .val (.int p2), .val (.int p3), .val (.int p4), .val (.int p5), .val (.int p6), .unset, .unset, .unset, .unset, .unset, .unset, .unset, .unset, .unset, .unset, .unset, .unset, .unset, .unset, .unset, .unset, .unset, .unset] [(.int ((p1 &&& (2147483647 : Int32)) % (17 : Int32)))])) t → Steps p.tables e below (s₁.setTop (entryFrame m #[(.int p1), (.int p2), (.int p3), (.int p4), (.int p5), (.int p6)] maxLocals)) t := fun t k => go0 t (by
      show Steps p.tables e below (s₁.setTop (mkF m 0 #[.val (.int p1), .val (.int p2), .val (.int p3), .val (.int p4), .val (.int p5), .val (.int p6), .unset, .unset, .unset, .unset, .unset, .unset, .unset, .unset, .unset, .unset, .unset, .unset, .unset, .unset, .unset, .unset, .unset, .unset] [])) _
      refine XS.iloadN X0.here hx rfl (hb hby at_0) rfl ?_
      show Steps p.tables e below (s₁.setTop (mkF m 1 #[.val (.int p1), .val (.int p2), .val (.int p3), .val (.int p4), .val (.int p5), .val (.int p6), .unset, .unset, .unset, .unset, .unset, .unset, .unset, .unset, .unset, .unset, .unset, .unset, .unset, .unset, .unset, .unset, .unset, .unset] [(.int p1)])) _
      refine X0.ldcInt hx hown (mvT hZ (hw _ (List.mem_of_getElem? (i := 0) rfl))) (g := (mkF m 1 #[.val (.int p1), .val (.int p2), .val (.int p3), .val (.int p4), .val (.int p5), .val (.int p6), .unset, .unset, .unset, .unset, .unset, .unset, .unset, .unset, .unset, .unset, .unset, .unset, .unset, .unset, .unset, .unset, .unset, .unset] [(.int p1)])) rfl (hb hby at_1) _ ?_
      show Steps p.tables e below (s₁.setTop (mkF m 3 #[.val (.int p1), .val (.int p2), .val (.int p3), .val (.int p4), .val (.int p5), .val (.int p6), .unset, .unset, .unset, .unset, .unset, .unset, .unset, .unset, .unset, .unset, .unset, .unset, .unset, .unset, .unset, .unset, .unset, .unset] [(.int (2147483647 : Int32)), (.int p1)])) _
      refine XS.iand X0.here hx rfl (hb hby at_3) rfl ?_
      show Steps p.tables e below (s₁.setTop (mkF m 4 #[.val (.int p1), .val (.int p2), .val (.int p3), .val (.int p4), .val (.int p5), .val (.int p6), .unset, .unset, .unset, .unset, .unset, .unset, .unset, .unset, .unset, .unset, .unset, .unset, .unset, .unset, .unset, .unset, .unset, .unset] [(.int (p1 &&& (2147483647 : Int32)))])) _
      refine XS.bipush X0.here hx rfl (hb hby at_4) ?_
      show Steps p.tables e below (s₁.setTop (mkF m 6 #[.val (.int p1), .val (.int p2), .val (.int p3), .val (.int p4), .val (.int p5), .val (.int p6), .unset, .unset, .unset, .unset, .unset, .unset, .unset, .unset, .unset, .unset, .unset, .unset, .unset, .unset, .unset, .unset, .unset, .unset] [(.int (17 : Int32)), (.int (p1 &&& (2147483647 : Int32)))])) _
      refine Jvm.RoadKit.iremM X0 hx rfl (hb hby at_6) rfl (by decide) ?_
      show Steps p.tables e below (s₁.setTop (mkF m 7 #[.val (.int p1), .val (.int p2), .val (.int p3), .val (.int p4), .val (.int p5), .val (.int p6), .unset, .unset, .unset, .unset, .unset, .unset, .unset, .unset, .unset, .unset, .unset, .unset, .unset, .unset, .unset, .unset, .unset, .unset] [(.int ((p1 &&& (2147483647 : Int32)) % (17 : Int32)))])) _
      exact k)
  obtain ⟨i1, r1, e_i1⟩ : ∃ z : Int32, (0 ≤ z.toInt ∧ z.toInt < 17) ∧ ((p1 &&& (2147483647 : Int32)) % (17 : Int32)) = z := ⟨_, own_rng17 _, rfl⟩
  rw [e_i1] at go101
  have go102 : ∀ t, Steps p.tables e below (s₁.setTop (mkF m 9 #[.val (.int p1), .val (.int p2), .val (.int p3), .val (.int p4), .val (.int p5), .val (.int p6), .val (.int i1), .unset, .unset, .unset, .unset, .unset, .unset, .unset, .unset, .unset, .unset, .unset, .unset, .unset, .unset, .unset, .unset, .unset] [])) t → Steps p.tables e below (s₁.setTop (entryFrame m #[(.int p1), (.int p2), (.int p3), (.int p4), (.int p5), (.int p6)] maxLocals)) t := fun t k => go101 t (by
      show Steps p.tables e below (s₁.setTop (mkF m 7 #[.val (.int p1), .val (.int p2), .val (.int p3), .val (.int p4), .val (.int p5), .val (.int p6), .unset, .unset, .unset, .unset, .unset, .unset, .unset, .unset, .unset, .unset, .unset, .unset, .unset, .unset, .unset, .unset, .unset, .unset] [(.int i1)])) _
      refine XS.istore X0.here hx rfl (hb hby at_7) rfl (l' := #[.val (.int p1), .val (.int p2), .val (.int p3), .val (.int p4), .val (.int p5), .val (.int p6), .val (.int i1), .unset, .unset, .unset, .unset, .unset, .unset, .unset, .unset, .unset, .unset, .unset, .unset, .unset, .unset, .unset, .unset, .unset]) rfl ?_
      exact k)
  obtain ⟨i2, r2, go103⟩ : ∃ i2 : Int32, ((i2 = i1 ∨ (0 ≤ i2.toInt ∧ i2.toInt < 17))) ∧ ∀ t, Steps p.tables e below (s₁.setTop (mkF m 28 #[.val (.int p1), .val (.int p2), .val (.int p3), .val (.int p4), .val (.int p5), .val (.int p6), .val (.int i1), .unset, .unset, .unset, .unset, .unset, .unset, .unset, .unset, .unset, .unset, .unset, .unset, .unset, .unset, .unset, .unset, .unset] [(.int i2)])) t → Steps p.tables e below (s₁.setTop (entryFrame m #[(.int p1), (.int p2), (.int p3), (.int p4), (.int p5), (.int p6)] maxLocals)) t := by
    by_cases hq : (p6 &&& (2 : Int32)) = 0
    · skip
      refine ⟨((p2 &&& (2147483647 : Int32)) % (17 : Int32)), Or.inr (own_rng17 _), fun t k => go102 t ?_⟩
      show Steps p.tables e below (s₁.setTop (mkF m 9 #[.val (.int p1), .val (.int p2), .val (.int p3), .val (.int p4), .val (.int p5), .val (.int p6), .val (.int i1), .unset, .unset, .unset, .unset, .unset, .unset, .unset, .unset, .unset, .unset, .unset, .unset, .unset, .unset, .unset, .unset, .unset] [])) _
      refine XS.iload X0.here hx rfl (hb hby at_9) rfl ?_
      show Steps p.tables e below (s₁.setTop (mkF m 11 #[.val (.int p1), .val (.int p2), .val (.int p3), .val (.int p4), .val (.int p5), .val (.int p6), .val (.int i1), .unset, .unset, .unset, .unset, .unset, .unset, .unset, .unset, .unset, .unset, .unset, .unset, .unset, .unset, .unset, .unset, .unset] [(.int p6)])) _
      refine XS.iconst X0.here hx rfl (hb hby at_11) ?_
      show Steps p.tables e below (s₁.setTop (mkF m 12 #[.val (.int p1), .val (.int p2), .val (.int p3), .val (.int p4), .val (.int p5), .val (.int p6), .val (.int i1), .unset, .unset, .unset, .unset, .unset, .unset, .unset, .unset, .unset, .unset, .unset, .unset, .unset, .unset, .unset, .unset, .unset] [(.int (2 : Int32)), (.int p6)])) _
      refine XS.iand X0.here hx rfl (hb hby at_12) rfl ?_
      show Steps p.tables e below (s₁.setTop (mkF m 13 #[.val (.int p1), .val (.int p2), .val (.int p3), .val (.int p4), .val (.int p5), .val (.int p6), .val (.int i1), .unset, .unset, .unset, .unset, .unset, .unset, .unset, .unset, .unset, .unset, .unset, .unset, .unset, .unset, .unset, .unset, .unset] [(.int (p6 &&& (2 : Int32)))])) _
      refine XS.ifYes X0.here hx rfl (pc0 := 13) (pc' := 21) rfl (hb hby at_13) rfl ((if0 _ _).trans (teq (hq : (p6 &&& (2 : Int32)) = (0 : Int32))).1) (by decide) (by decide) ?_
      show Steps p.tables e below (s₁.setTop (mkF m 21 #[.val (.int p1), .val (.int p2), .val (.int p3), .val (.int p4), .val (.int p5), .val (.int p6), .val (.int i1), .unset, .unset, .unset, .unset, .unset, .unset, .unset, .unset, .unset, .unset, .unset, .unset, .unset, .unset, .unset, .unset, .unset] [])) _
      refine XS.iloadN X0.here hx rfl (hb hby at_21) rfl ?_
      show Steps p.tables e below (s₁.setTop (mkF m 22 #[.val (.int p1), .val (.int p2), .val (.int p3), .val (.int p4), .val (.int p5), .val (.int p6), .val (.int i1), .unset, .unset, .unset, .unset, .unset, .unset, .unset, .unset, .unset, .unset, .unset, .unset, .unset, .unset, .unset, .unset, .unset] [(.int p2)])) _
      refine X0.ldcInt hx hown (mvT hZ (hw _ (List.mem_of_getElem? (i := 0) rfl))) (g := (mkF m 22 #[.val (.int p1), .val (.int p2), .val (.int p3), .val (.int p4), .val (.int p5), .val (.int p6), .val (.int i1), .unset, .unset, .unset, .unset, .unset, .unset, .unset, .unset, .unset, .unset, .unset, .unset, .unset, .unset, .unset, .unset, .unset] [(.int p2)])) rfl (hb hby at_22) _ ?_
      show Steps p.tables e below (s₁.setTop (mkF m 24 #[.val (.int p1), .val (.int p2), .val (.int p3), .val (.int p4), .val (.int p5), .val (.int p6), .val (.int i1), .unset, .unset, .unset, .unset, .unset, .unset, .unset, .unset, .unset, .unset, .unset, .unset, .unset, .unset, .unset, .unset, .unset] [(.int (2147483647 : Int32)), (.int p2)])) _
      refine XS.iand X0.here hx rfl (hb hby at_24) rfl ?_
      show Steps p.tables e below (s₁.setTop (mkF m 25 #[.val (.int p1), .val (.int p2), .val (.int p3), .val (.int p4), .val (.int p5), .val (.int p6), .val (.int i1), .unset, .unset, .unset, .unset, .unset, .unset, .unset, .unset, .unset, .unset, .unset, .unset, .unset, .unset, .unset, .unset, .unset] [(.int (p2 &&& (2147483647 : Int32)))])) _
      refine XS.bipush X0.here hx rfl (hb hby at_25) ?_
      show Steps p.tables e below (s₁.setTop (mkF m 27 #[.val (.int p1), .val (.int p2), .val (.int p3), .val (.int p4), .val (.int p5), .val (.int p6), .val (.int i1), .unset, .unset, .unset, .unset, .unset, .unset, .unset, .unset, .unset, .unset, .unset, .unset, .unset, .unset, .unset, .unset, .unset] [(.int (17 : Int32)), (.int (p2 &&& (2147483647 : Int32)))])) _
      refine Jvm.RoadKit.iremM X0 hx rfl (hb hby at_27) rfl (by decide) ?_
      show Steps p.tables e below (s₁.setTop (mkF m 28 #[.val (.int p1), .val (.int p2), .val (.int p3), .val (.int p4), .val (.int p5), .val (.int p6), .val (.int i1), .unset, .unset, .unset, .unset, .unset, .unset, .unset, .unset, .unset, .unset, .unset, .unset, .unset, .unset, .unset, .unset, .unset] [(.int ((p2 &&& (2147483647 : Int32)) % (17 : Int32)))])) _
      exact k
    · skip
      refine ⟨i1, Or.inl rfl, fun t k => go102 t ?_⟩
      show Steps p.tables e below (s₁.setTop (mkF m 9 #[.val (.int p1), .val (.int p2), .val (.int p3), .val (.int p4), .val (.int p5), .val (.int p6), .val (.int i1), .unset, .unset, .unset, .unset, .unset, .unset, .unset, .unset, .unset, .unset, .unset, .unset, .unset, .unset, .unset, .unset, .unset] [])) _
      refine XS.iload X0.here hx rfl (hb hby at_9) rfl ?_
      show Steps p.tables e below (s₁.setTop (mkF m 11 #[.val (.int p1), .val (.int p2), .val (.int p3), .val (.int p4), .val (.int p5), .val (.int p6), .val (.int i1), .unset, .unset, .unset, .unset, .unset, .unset, .unset, .unset, .unset, .unset, .unset, .unset, .unset, .unset, .unset, .unset, .unset] [(.int p6)])) _
      refine XS.iconst X0.here hx rfl (hb hby at_11) ?_
      show Steps p.tables e below (s₁.setTop (mkF m 12 #[.val (.int p1), .val (.int p2), .val (.int p3), .val (.int p4), .val (.int p5), .val (.int p6), .val (.int i1), .unset, .unset, .unset, .unset, .unset, .unset, .unset, .unset, .unset, .unset, .unset, .unset, .unset, .unset, .unset, .unset, .unset] [(.int (2 : Int32)), (.int p6)])) _
      refine XS.iand X0.here hx rfl (hb hby at_12) rfl ?_
      show Steps p.tables e below (s₁.setTop (mkF m 13 #[.val (.int p1), .val (.int p2), .val (.int p3), .val (.int p4), .val (.int p5), .val (.int p6), .val (.int i1), .unset, .unset, .unset, .unset, .unset, .unset, .unset, .unset, .unset, .unset, .unset, .unset, .unset, .unset, .unset, .unset, .unset] [(.int (p6 &&& (2 : Int32)))])) _
      refine XS.ifNo X0.here hx rfl (hb hby at_13) rfl ((if0 _ _).trans (feq (hq : ¬ ((p6 &&& (2 : Int32)) = (0 : Int32)))).1) ?_
      show Steps p.tables e below (s₁.setTop (mkF m 16 #[.val (.int p1), .val (.int p2), .val (.int p3), .val (.int p4), .val (.int p5), .val (.int p6), .val (.int i1), .unset, .unset, .unset, .unset, .unset, .unset, .unset, .unset, .unset, .unset, .unset, .unset, .unset, .unset, .unset, .unset, .unset] [])) _
      refine XS.iload X0.here hx rfl (hb hby at_16) rfl ?_
      show Steps p.tables e below (s₁.setTop (mkF m 18 #[.val (.int p1), .val (.int p2), .val (.int p3), .val (.int p4), .val (.int p5), .val (.int p6), .val (.int i1), .unset, .unset, .unset, .unset, .unset, .unset, .unset, .unset, .unset, .unset, .unset, .unset, .unset, .unset, .unset, .unset, .unset] [(.int i1)])) _
      refine XS.goto X0.here hx rfl (pc0 := 18) (pc' := 28) rfl (hb hby at_18) (by decide) (by decide) ?_
      show Steps p.tables e below (s₁.setTop (mkF m 28 #[.val (.int p1), .val (.int p2), .val (.int p3), .val (.int p4), .val (.int p5), .val (.int p6), .val (.int i1), .unset, .unset, .unset, .unset, .unset, .unset, .unset, .unset, .unset, .unset, .unset, .unset, .unset, .unset, .unset, .unset, .unset] [(.int i1)])) _
      exact k
  have go104 : ∀ t, Steps p.tables e below (s₁.setTop (mkF m 36 #[.val (.int p1), .val (.int p2), .val (.int p3), .val (.int p4), .val (.int p5), .val (.int p6), .val (.int i1), .val (.int i2), .unset, .unset, .unset, .unset, .unset, .unset, .unset, .unset, .unset, .unset, .unset, .unset, .unset, .unset, .unset, .unset] [(.int ((p5 &&& (3 : Int32)) % (3 : Int32)))])) t → Steps p.tables e below (s₁.setTop (entryFrame m #[(.int p1), (.int p2), (.int p3), (.int p4), (.int p5), (.int p6)] maxLocals)) t := fun t k => go103 t (by
      show Steps p.tables e below (s₁.setTop (mkF m 28 #[.val (.int p1), .val (.int p2), .val (.int p3), .val (.int p4), .val (.int p5), .val (.int p6), .val (.int i1), .unset, .unset, .unset, .unset, .unset, .unset, .unset, .unset, .unset, .unset, .unset, .unset, .unset, .unset, .unset, .unset, .unset] [(.int i2)])) _
      refine XS.istore X0.here hx rfl (hb hby at_28) rfl (l' := #[.val (.int p1), .val (.int p2), .val (.int p3), .val (.int p4), .val (.int p5), .val (.int p6), .val (.int i1), .val (.int i2), .unset, .unset, .unset, .unset, .unset, .unset, .unset, .unset, .unset, .unset, .unset, .unset, .unset, .unset, .unset, .unset]) rfl ?_
      show Steps p.tables e below (s₁.setTop (mkF m 30 #[.val (.int p1), .val (.int p2), .val (.int p3), .val (.int p4), .val (.int p5), .val (.int p6), .val (.int i1), .val (.int i2), .unset, .unset, .unset, .unset, .unset, .unset, .unset, .unset, .unset, .unset, .unset, .unset, .unset, .unset, .unset, .unset] [])) _
      refine XS.iload X0.here hx rfl (hb hby at_30) rfl ?_
      show Steps p.tables e below (s₁.setTop (mkF m 32 #[.val (.int p1), .val (.int p2), .val (.int p3), .val (.int p4), .val (.int p5), .val (.int p6), .val (.int i1), .val (.int i2), .unset, .unset, .unset, .unset, .unset, .unset, .unset, .unset, .unset, .unset, .unset, .unset, .unset, .unset, .unset, .unset] [(.int p5)])) _
      refine XS.iconst X0.here hx rfl (hb hby at_32) ?_
      show Steps p.tables e below (s₁.setTop (mkF m 33 #[.val (.int p1), .val (.int p2), .val (.int p3), .val (.int p4), .val (.int p5), .val (.int p6), .val (.int i1), .val (.int i2), .unset, .unset, .unset, .unset, .unset, .unset, .unset, .unset, .unset, .unset, .unset, .unset, .unset, .unset, .unset, .unset] [(.int (3 : Int32)), (.int p5)])) _
      refine XS.iand X0.here hx rfl (hb hby at_33) rfl ?_
      show Steps p.tables e below (s₁.setTop (mkF m 34 #[.val (.int p1), .val (.int p2), .val (.int p3), .val (.int p4), .val (.int p5), .val (.int p6), .val (.int i1), .val (.int i2), .unset, .unset, .unset, .unset, .unset, .unset, .unset, .unset, .unset, .unset, .unset, .unset, .unset, .unset, .unset, .unset] [(.int (p5 &&& (3 : Int32)))])) _
      refine XS.iconst X0.here hx rfl (hb hby at_34) ?_
      show Steps p.tables e below (s₁.setTop (mkF m 35 #[.val (.int p1), .val (.int p2), .val (.int p3), .val (.int p4), .val (.int p5), .val (.int p6), .val (.int i1), .val (.int i2), .unset, .unset, .unset, .unset, .unset, .unset, .unset, .unset, .unset, .unset, .unset, .unset, .unset, .unset, .unset, .unset] [(.int (3 : Int32)), (.int (p5 &&& (3 : Int32)))])) _
      refine Jvm.RoadKit.iremM X0 hx rfl (hb hby at_35) rfl (by decide) ?_
      show Steps p.tables e below (s₁.setTop (mkF m 36 #[.val (.int p1), .val (.int p2), .val (.int p3), .val (.int p4), .val (.int p5), .val (.int p6), .val (.int i1), .val (.int i2), .unset, .unset, .unset, .unset, .unset, .unset, .unset, .unset, .unset, .unset, .unset, .unset, .unset, .unset, .unset, .unset] [(.int ((p5 &&& (3 : Int32)) % (3 : Int32)))])) _
      exact k)
  obtain ⟨la, rla, e_la⟩ : ∃ z : Int32, (z = 0 ∨ z = 1 ∨ z = 2) ∧ ((p5 &&& (3 : Int32)) % (3 : Int32)) = z := ⟨_, own_mod3 _, rfl⟩
  rw [e_la] at go104
  have go105 : ∀ t, Steps p.tables e below (s₁.setTop (mkF m 38 #[.val (.int p1), .val (.int p2), .val (.int p3), .val (.int p4), .val (.int p5), .val (.int p6), .val (.int i1), .val (.int i2), .val (.int la), .unset, .unset, .unset, .unset, .unset, .unset, .unset, .unset, .unset, .unset, .unset, .unset, .unset, .unset, .unset] [])) t → Steps p.tables e below (s₁.setTop (entryFrame m #[(.int p1), (.int p2), (.int p3), (.int p4), (.int p5), (.int p6)] maxLocals)) t := fun t k => go104 t (by
      show Steps p.tables e below (s₁.setTop (mkF m 36 #[.val (.int p1), .val (.int p2), .val (.int p3), .val (.int p4), .val (.int p5), .val (.int p6), .val (.int i1), .val (.int i2), .unset, .unset, .unset, .unset, .unset, .unset, .unset, .unset, .unset, .unset, .unset, .unset, .unset, .unset, .unset, .unset] [(.int la)])) _
      refine XS.istore X0.here hx rfl (hb hby at_36) rfl (l' := #[.val (.int p1), .val (.int p2), .val (.int p3), .val (.int p4), .val (.int p5), .val (.int p6), .val (.int i1), .val (.int i2), .val (.int la), .unset, .unset, .unset, .unset, .unset, .unset, .unset, .unset, .unset, .unset, .unset, .unset, .unset, .unset, .unset]) rfl ?_
      exact k)
  obtain ⟨lb, h_lb, go106⟩ : ∃ lb : Int32, (lb = la ∨ (lb = 0 ∨ lb = 1 ∨ lb = 2)) ∧ ∀ t, Steps p.tables e below (s₁.setTop (mkF m 58 #[.val (.int p1), .val (.int p2), .val (.int p3), .val (.int p4), .val (.int p5), .val (.int p6), .val (.int i1), .val (.int i2), .val (.int la), .unset, .unset, .unset, .unset, .unset, .unset, .unset, .unset, .unset, .unset, .unset, .unset, .unset, .unset, .unset] [(.int lb)])) t → Steps p.tables e below (s₁.setTop (entryFrame m #[(.int p1), (.int p2), (.int p3), (.int p4), (.int p5), (.int p6)] maxLocals)) t := by
    by_cases hq : (p6 &&& (1 : Int32)) = 0
    · skip
      refine ⟨((((p5.toUInt32 >>> ((2 : Int32) &&& 31).toUInt32).toInt32) &&& (3 : Int32)) % (3 : Int32)), Or.inr (own_mod3 _), fun t k => go105 t ?_⟩
      show Steps p.tables e below (s₁.setTop (mkF m 38 #[.val (.int p1), .val (.int p2), .val (.int p3), .val (.int p4), .val (.int p5), .val (.int p6), .val (.int i1), .val (.int i2), .val (.int la), .unset, .unset, .unset, .unset, .unset, .unset, .unset, .unset, .unset, .unset, .unset, .unset, .unset, .unset, .unset] [])) _
      refine XS.iload X0.here hx rfl (hb hby at_38) rfl ?_
      show Steps p.tables e below (s₁.setTop (mkF m 40 #[.val (.int p1), .val (.int p2), .val (.int p3), .val (.int p4), .val (.int p5), .val (.int p6), .val (.int i1), .val (.int i2), .val (.int la), .unset, .unset, .unset, .unset, .unset, .unset, .unset, .unset, .unset, .unset, .unset, .unset, .unset, .unset, .unset] [(.int p6)])) _
      refine XS.iconst X0.here hx rfl (hb hby at_40) ?_
      show Steps p.tables e below (s₁.setTop (mkF m 41 #[.val (.int p1), .val (.int p2), .val (.int p3), .val (.int p4), .val (.int p5), .val (.int p6), .val (.int i1), .val (.int i2), .val (.int la), .unset, .unset, .unset, .unset, .unset, .unset, .unset, .unset, .unset, .unset, .unset, .unset, .unset, .unset, .unset] [(.int (1 : Int32)), (.int p6)])) _
      refine XS.iand X0.here hx rfl (hb hby at_41) rfl ?_
      show Steps p.tables e below (s₁.setTop (mkF m 42 #[.val (.int p1), .val (.int p2), .val (.int p3), .val (.int p4), .val (.int p5), .val (.int p6), .val (.int i1), .val (.int i2), .val (.int la), .unset, .unset, .unset, .unset, .unset, .unset, .unset, .unset, .unset, .unset, .unset, .unset, .unset, .unset, .unset] [(.int (p6 &&& (1 : Int32)))])) _
      refine XS.ifYes X0.here hx rfl (pc0 := 42) (pc' := 50) rfl (hb hby at_42) rfl ((if0 _ _).trans (teq (hq : (p6 &&& (1 : Int32)) = (0 : Int32))).1) (by decide) (by decide) ?_
      show Steps p.tables e below (s₁.setTop (mkF m 50 #[.val (.int p1), .val (.int p2), .val (.int p3), .val (.int p4), .val (.int p5), .val (.int p6), .val (.int i1), .val (.int i2), .val (.int la), .unset, .unset, .unset, .unset, .unset, .unset, .unset, .unset, .unset, .unset, .unset, .unset, .unset, .unset, .unset] [])) _
      refine XS.iload X0.here hx rfl (hb hby at_50) rfl ?_
      show Steps p.tables e below (s₁.setTop (mkF m 52 #[.val (.int p1), .val (.int p2), .val (.int p3), .val (.int p4), .val (.int p5), .val (.int p6), .val (.int i1), .val (.int i2), .val (.int la), .unset, .unset, .unset, .unset, .unset, .unset, .unset, .unset, .unset, .unset, .unset, .unset, .unset, .unset, .unset] [(.int p5)])) _
      refine XS.iconst X0.here hx rfl (hb hby at_52) ?_
      show Steps p.tables e below (s₁.setTop (mkF m 53 #[.val (.int p1), .val (.int p2), .val (.int p3), .val (.int p4), .val (.int p5), .val (.int p6), .val (.int i1), .val (.int i2), .val (.int la), .unset, .unset, .unset, .unset, .unset, .unset, .unset, .unset, .unset, .unset, .unset, .unset, .unset, .unset, .unset] [(.int (2 : Int32)), (.int p5)])) _
      refine XS.iushr X0.here hx rfl (hb hby at_53) rfl ?_
      show Steps p.tables e below (s₁.setTop (mkF m 54 #[.val (.int p1), .val (.int p2), .val (.int p3), .val (.int p4), .val (.int p5), .val (.int p6), .val (.int i1), .val (.int i2), .val (.int la), .unset, .unset, .unset, .unset, .unset, .unset, .unset, .unset, .unset, .unset, .unset, .unset, .unset, .unset, .unset] [(.int ((p5.toUInt32 >>> ((2 : Int32) &&& 31).toUInt32).toInt32))])) _
      refine XS.iconst X0.here hx rfl (hb hby at_54) ?_
      show Steps p.tables e below (s₁.setTop (mkF m 55 #[.val (.int p1), .val (.int p2), .val (.int p3), .val (.int p4), .val (.int p5), .val (.int p6), .val (.int i1), .val (.int i2), .val (.int la), .unset, .unset, .unset, .unset, .unset, .unset, .unset, .unset, .unset, .unset, .unset, .unset, .unset, .unset, .unset] [(.int (3 : Int32)), (.int ((p5.toUInt32 >>> ((2 : Int32) &&& 31).toUInt32).toInt32))])) _
      refine XS.iand X0.here hx rfl (hb hby at_55) rfl ?_
      show Steps p.tables e below (s₁.setTop (mkF m 56 #[.val (.int p1), .val (.int p2), .val (.int p3), .val (.int p4), .val (.int p5), .val (.int p6), .val (.int i1), .val (.int i2), .val (.int la), .unset, .unset, .unset, .unset, .unset, .unset, .unset, .unset, .unset, .unset, .unset, .unset, .unset, .unset, .unset] [(.int (((p5.toUInt32 >>> ((2 : Int32) &&& 31).toUInt32).toInt32) &&& (3 : Int32)))])) _
      refine XS.iconst X0.here hx rfl (hb hby at_56) ?_
      show Steps p.tables e below (s₁.setTop (mkF m 57 #[.val (.int p1), .val (.int p2), .val (.int p3), .val (.int p4), .val (.int p5), .val (.int p6), .val (.int i1), .val (.int i2), .val (.int la), .unset, .unset, .unset, .unset, .unset, .unset, .unset, .unset, .unset, .unset, .unset, .unset, .unset, .unset, .unset] [(.int (3 : Int32)), (.int (((p5.toUInt32 >>> ((2 : Int32) &&& 31).toUInt32).toInt32) &&& (3 : Int32)))])) _
      refine Jvm.RoadKit.iremM X0 hx rfl (hb hby at_57) rfl (by decide) ?_
      show Steps p.tables e below (s₁.setTop (mkF m 58 #[.val (.int p1), .val (.int p2), .val (.int p3), .val (.int p4), .val (.int p5), .val (.int p6), .val (.int i1), .val (.int i2), .val (.int la), .unset, .unset, .unset, .unset, .unset, .unset, .unset, .unset, .unset, .unset, .unset, .unset, .unset, .unset, .unset] [(.int ((((p5.toUInt32 >>> ((2 : Int32) &&& 31).toUInt32).toInt32) &&& (3 : Int32)) % (3 : Int32)))])) _
      exact k
    · skip
      refine ⟨la, Or.inl rfl, fun t k => go105 t ?_⟩
      show Steps p.tables e below (s₁.setTop (mkF m 38 #[.val (.int p1), .val (.int p2), .val (.int p3), .val (.int p4), .val (.int p5), .val (.int p6), .val (.int i1), .val (.int i2), .val (.int la), .unset, .unset, .unset, .unset, .unset, .unset, .unset, .unset, .unset, .unset, .unset, .unset, .unset, .unset, .unset] [])) _
      refine XS.iload X0.here hx rfl (hb hby at_38) rfl ?_
      show Steps p.tables e below (s₁.setTop (mkF m 40 #[.val (.int p1), .val (.int p2), .val (.int p3), .val (.int p4), .val (.int p5), .val (.int p6), .val (.int i1), .val (.int i2), .val (.int la), .unset, .unset, .unset, .unset, .unset, .unset, .unset, .unset, .unset, .unset, .unset, .unset, .unset, .unset, .unset] [(.int p6)])) _
      refine XS.iconst X0.here hx rfl (hb hby at_40) ?_
      show Steps p.tables e below (s₁.setTop (mkF m 41 #[.val (.int p1), .val (.int p2), .val (.int p3), .val (.int p4), .val (.int p5), .val (.int p6), .val (.int i1), .val (.int i2), .val (.int la), .unset, .unset, .unset, .unset, .unset, .unset, .unset, .unset, .unset, .unset, .unset, .unset, .unset, .unset, .unset] [(.int (1 : Int32)), (.int p6)])) _
      refine XS.iand X0.here hx rfl (hb hby at_41) rfl ?_
      show Steps p.tables e below (s₁.setTop (mkF m 42 #[.val (.int p1), .val (.int p2), .val (.int p3), .val (.int p4), .val (.int p5), .val (.int p6), .val (.int i1), .val (.int i2), .val (.int la), .unset, .unset, .unset, .unset, .unset, .unset, .unset, .unset, .unset, .unset, .unset, .unset, .unset, .unset, .unset] [(.int (p6 &&& (1 : Int32)))])) _
      refine XS.ifNo X0.here hx rfl (hb hby at_42) rfl ((if0 _ _).trans (feq (hq : ¬ ((p6 &&& (1 : Int32)) = (0 : Int32)))).1) ?_
      show Steps p.tables e below (s₁.setTop (mkF m 45 #[.val (.int p1), .val (.int p2), .val (.int p3), .val (.int p4), .val (.int p5), .val (.int p6), .val (.int i1), .val (.int i2), .val (.int la), .unset, .unset, .unset, .unset, .unset, .unset, .unset, .unset, .unset, .unset, .unset, .unset, .unset, .unset, .unset] [])) _
      refine XS.iload X0.here hx rfl (hb hby at_45) rfl ?_
      show Steps p.tables e below (s₁.setTop (mkF m 47 #[.val (.int p1), .val (.int p2), .val (.int p3), .val (.int p4), .val (.int p5), .val (.int p6), .val (.int i1), .val (.int i2), .val (.int la), .unset, .unset, .unset, .unset, .unset, .unset, .unset, .unset, .unset, .unset, .unset, .unset, .unset, .unset, .unset] [(.int la)])) _
      refine XS.goto X0.here hx rfl (pc0 := 47) (pc' := 58) rfl (hb hby at_47) (by decide) (by decide) ?_
      show Steps p.tables e below (s₁.setTop (mkF m 58 #[.val (.int p1), .val (.int p2), .val (.int p3), .val (.int p4), .val (.int p5), .val (.int p6), .val (.int i1), .val (.int i2), .val (.int la), .unset, .unset, .unset, .unset, .unset, .unset, .unset, .unset, .unset, .unset, .unset, .unset, .unset, .unset, .unset] [(.int la)])) _
      exact k
  have go107 : ∀ t, Steps p.tables e below (s₁.setTop (mkF m 66 #[.val (.int p1), .val (.int p2), .val (.int p3), .val (.int p4), .val (.int p5), .val (.int p6), .val (.int i1), .val (.int i2), .val (.int la), .val (.int lb), .unset, .unset, .unset, .unset, .unset, .unset, .unset, .unset, .unset, .unset, .unset, .unset, .unset, .unset] [(.int ((p3 &&& (255 : Int32)).toUInt32.toUInt16.toUInt32.toInt32))])) t → Steps p.tables e below (s₁.setTop (entryFrame m #[(.int p1), (.int p2), (.int p3), (.int p4), (.int p5), (.int p6)] maxLocals)) t := fun t k => go106 t (by
      show Steps p.tables e below (s₁.setTop (mkF m 58 #[.val (.int p1), .val (.int p2), .val (.int p3), .val (.int p4), .val (.int p5), .val (.int p6), .val (.int i1), .val (.int i2), .val (.int la), .unset, .unset, .unset, .unset, .unset, .unset, .unset, .unset, .unset, .unset, .unset, .unset, .unset, .unset, .unset] [(.int lb)])) _
      refine XS.istore X0.here hx rfl (hb hby at_58) rfl (l' := #[.val (.int p1), .val (.int p2), .val (.int p3), .val (.int p4), .val (.int p5), .val (.int p6), .val (.int i1), .val (.int i2), .val (.int la), .val (.int lb), .unset, .unset, .unset, .unset, .unset, .unset, .unset, .unset, .unset, .unset, .unset, .unset, .unset, .unset]) rfl ?_
      show Steps p.tables e below (s₁.setTop (mkF m 60 #[.val (.int p1), .val (.int p2), .val (.int p3), .val (.int p4), .val (.int p5), .val (.int p6), .val (.int i1), .val (.int i2), .val (.int la), .val (.int lb), .unset, .unset, .unset, .unset, .unset, .unset, .unset, .unset, .unset, .unset, .unset, .unset, .unset, .unset] [])) _
      refine XS.iloadN X0.here hx rfl (hb hby at_60) rfl ?_
      show Steps p.tables e below (s₁.setTop (mkF m 61 #[.val (.int p1), .val (.int p2), .val (.int p3), .val (.int p4), .val (.int p5), .val (.int p6), .val (.int i1), .val (.int i2), .val (.int la), .val (.int lb), .unset, .unset, .unset, .unset, .unset, .unset, .unset, .unset, .unset, .unset, .unset, .unset, .unset, .unset] [(.int p3)])) _
      refine XS.sipush X0.here hx rfl (hb hby at_61) ?_
      show Steps p.tables e below (s₁.setTop (mkF m 64 #[.val (.int p1), .val (.int p2), .val (.int p3), .val (.int p4), .val (.int p5), .val (.int p6), .val (.int i1), .val (.int i2), .val (.int la), .val (.int lb), .unset, .unset, .unset, .unset, .unset, .unset, .unset, .unset, .unset, .unset, .unset, .unset, .unset, .unset] [(.int (255 : Int32)), (.int p3)])) _
      refine XS.iand X0.here hx rfl (hb hby at_64) rfl ?_
      show Steps p.tables e below (s₁.setTop (mkF m 65 #[.val (.int p1), .val (.int p2), .val (.int p3), .val (.int p4), .val (.int p5), .val (.int p6), .val (.int i1), .val (.int i2), .val (.int la), .val (.int lb), .unset, .unset, .unset, .unset, .unset, .unset, .unset, .unset, .unset, .unset, .unset, .unset, .unset, .unset] [(.int (p3 &&& (255 : Int32)))])) _
      refine XS.i2c X0.here hx rfl (hb hby at_65) rfl ?_
      show Steps p.tables e below (s₁.setTop (mkF m 66 #[.val (.int p1), .val (.int p2), .val (.int p3), .val (.int p4), .val (.int p5), .val (.int p6), .val (.int i1), .val (.int i2), .val (.int la), .val (.int lb), .unset, .unset, .unset, .unset, .unset, .unset, .unset, .unset, .unset, .unset, .unset, .unset, .unset, .unset] [(.int ((p3 &&& (255 : Int32)).toUInt32.toUInt16.toUInt32.toInt32))])) _
      exact k)
  obtain ⟨c0, rc0, e_c0⟩ : ∃ z : Int32, (¬ nar .char z < 0 ∧ ¬ (255 : Int32) < nar .char z ∧ nar .char z = z) ∧ ((p3 &&& (255 : Int32)).toUInt32.toUInt16.toUInt32.toInt32) = z := ⟨_, ⟨(own_and255 _).1, (own_and255 _).2, own_nar2 _⟩, rfl⟩
  rw [e_c0] at go107
  have go108 : ∀ t, Steps p.tables e below (s₁.setTop (mkF m 77 #[.val (.int p1), .val (.int p2), .val (.int p3), .val (.int p4), .val (.int p5), .val (.int p6), .val (.int i1), .val (.int i2), .val (.int la), .val (.int lb), .val (.int c0), .unset, .unset, .unset, .unset, .unset, .unset, .unset, .unset, .unset, .unset, .unset, .unset, .unset] [(.int ((((p3.toUInt32 >>> ((8 : Int32) &&& 31).toUInt32).toInt32) &&& (255 : Int32)).toUInt32.toUInt16.toUInt32.toInt32))])) t → Steps p.tables e below (s₁.setTop (entryFrame m #[(.int p1), (.int p2), (.int p3), (.int p4), (.int p5), (.int p6)] maxLocals)) t := fun t k => go107 t (by
      show Steps p.tables e below (s₁.setTop (mkF m 66 #[.val (.int p1), .val (.int p2), .val (.int p3), .val (.int p4), .val (.int p5), .val (.int p6), .val (.int i1), .val (.int i2), .val (.int la), .val (.int lb), .unset, .unset, .unset, .unset, .unset, .unset, .unset, .unset, .unset, .unset, .unset, .unset, .unset, .unset] [(.int c0)])) _
      refine XS.istore X0.here hx rfl (hb hby at_66) rfl (l' := #[.val (.int p1), .val (.int p2), .val (.int p3), .val (.int p4), .val (.int p5), .val (.int p6), .val (.int i1), .val (.int i2), .val (.int la), .val (.int lb), .val (.int c0), .unset, .unset, .unset, .unset, .unset, .unset, .unset, .unset, .unset, .unset, .unset, .unset, .unset]) rfl ?_
      show Steps p.tables e below (s₁.setTop (mkF m 68 #[.val (.int p1), .val (.int p2), .val (.int p3), .val (.int p4), .val (.int p5), .val (.int p6), .val (.int i1), .val (.int i2), .val (.int la), .val (.int lb), .val (.int c0), .unset, .unset, .unset, .unset, .unset, .unset, .unset, .unset, .unset, .unset, .unset, .unset, .unset] [])) _
      refine XS.iloadN X0.here hx rfl (hb hby at_68) rfl ?_
      show Steps p.tables e below (s₁.setTop (mkF m 69 #[.val (.int p1), .val (.int p2), .val (.int p3), .val (.int p4), .val (.int p5), .val (.int p6), .val (.int i1), .val (.int i2), .val (.int la), .val (.int lb), .val (.int c0), .unset, .unset, .unset, .unset, .unset, .unset, .unset, .unset, .unset, .unset, .unset, .unset, .unset] [(.int p3)])) _
      refine XS.bipush X0.here hx rfl (hb hby at_69) ?_
      show Steps p.tables e below (s₁.setTop (mkF m 71 #[.val (.int p1), .val (.int p2), .val (.int p3), .val (.int p4), .val (.int p5), .val (.int p6), .val (.int i1), .val (.int i2), .val (.int la), .val (.int lb), .val (.int c0), .unset, .unset, .unset, .unset, .unset, .unset, .unset, .unset, .unset, .unset, .unset, .unset, .unset] [(.int (8 : Int32)), (.int p3)])) _
      refine XS.iushr X0.here hx rfl (hb hby at_71) rfl ?_
      show Steps p.tables e below (s₁.setTop (mkF m 72 #[.val (.int p1), .val (.int p2), .val (.int p3), .val (.int p4), .val (.int p5), .val (.int p6), .val (.int i1), .val (.int i2), .val (.int la), .val (.int lb), .val (.int c0), .unset, .unset, .unset, .unset, .unset, .unset, .unset, .unset, .unset, .unset, .unset, .unset, .unset] [(.int ((p3.toUInt32 >>> ((8 : Int32) &&& 31).toUInt32).toInt32))])) _
      refine XS.sipush X0.here hx rfl (hb hby at_72) ?_
      show Steps p.tables e below (s₁.setTop (mkF m 75 #[.val (.int p1), .val (.int p2), .val (.int p3), .val (.int p4), .val (.int p5), .val (.int p6), .val (.int i1), .val (.int i2), .val (.int la), .val (.int lb), .val (.int c0), .unset, .unset, .unset, .unset, .unset, .unset, .unset, .unset, .unset, .unset, .unset, .unset, .unset] [(.int (255 : Int32)), (.int ((p3.toUInt32 >>> ((8 : Int32) &&& 31).toUInt32).toInt32))])) _
      refine XS.iand X0.here hx rfl (hb hby at_75) rfl ?_
      show Steps p.tables e below (s₁.setTop (mkF m 76 #[.val (.int p1), .val (.int p2), .val (.int p3), .val (.int p4), .val (.int p5), .val (.int p6), .val (.int i1), .val (.int i2), .val (.int la), .val (.int lb), .val (.int c0), .unset, .unset, .unset, .unset, .unset, .unset, .unset, .unset, .unset, .unset, .unset, .unset, .unset] [(.int (((p3.toUInt32 >>> ((8 : Int32) &&& 31).toUInt32).toInt32) &&& (255 : Int32)))])) _
      refine XS.i2c X0.here hx rfl (hb hby at_76) rfl ?_
      show Steps p.tables e below (s₁.setTop (mkF m 77 #[.val (.int p1), .val (.int p2), .val (.int p3), .val (.int p4), .val (.int p5), .val (.int p6), .val (.int i1), .val (.int i2), .val (.int la), .val (.int lb), .val (.int c0), .unset, .unset, .unset, .unset, .unset, .unset, .unset, .unset, .unset, .unset, .unset, .unset, .unset] [(.int ((((p3.toUInt32 >>> ((8 : Int32) &&& 31).toUInt32).toInt32) &&& (255 : Int32)).toUInt32.toUInt16.toUInt32.toInt32))])) _
      exact k)
  obtain ⟨c1, rc1, e_c1⟩ : ∃ z : Int32, (¬ nar .char z < 0 ∧ ¬ (255 : Int32) < nar .char z ∧ nar .char z = z) ∧ ((((p3.toUInt32 >>> ((8 : Int32) &&& 31).toUInt32).toInt32) &&& (255 : Int32)).toUInt32.toUInt16.toUInt32.toInt32) = z := ⟨_, ⟨(own_and255 _).1, (own_and255 _).2, own_nar2 _⟩, rfl⟩
  rw [e_c1] at go108
  have go109 : ∀ t, Steps p.tables e below (s₁.setTop (mkF m 79 #[.val (.int p1), .val (.int p2), .val (.int p3), .val (.int p4), .val (.int p5), .val (.int p6), .val (.int i1), .val (.int i2), .val (.int la), .val (.int lb), .val (.int c0), .val (.int c1), .unset, .unset, .unset, .unset, .unset, .unset, .unset, .unset, .unset, .unset, .unset, .unset] [])) t → Steps p.tables e below (s₁.setTop (entryFrame m #[(.int p1), (.int p2), (.int p3), (.int p4), (.int p5), (.int p6)] maxLocals)) t := fun t k => go108 t (by
      show Steps p.tables e below (s₁.setTop (mkF m 77 #[.val (.int p1), .val (.int p2), .val (.int p3), .val (.int p4), .val (.int p5), .val (.int p6), .val (.int i1), .val (.int i2), .val (.int la), .val (.int lb), .val (.int c0), .unset, .unset, .unset, .unset, .unset, .unset, .unset, .unset, .unset, .unset, .unset, .unset, .unset] [(.int c1)])) _
      refine XS.istore X0.here hx rfl (hb hby at_77) rfl (l' := #[.val (.int p1), .val (.int p2), .val (.int p3), .val (.int p4), .val (.int p5), .val (.int p6), .val (.int i1), .val (.int i2), .val (.int la), .val (.int lb), .val (.int c0), .val (.int c1), .unset, .unset, .unset, .unset, .unset, .unset, .unset, .unset, .unset, .unset, .unset, .unset]) rfl ?_
      exact k)
  obtain ⟨bb, h_bb, go110⟩ : ∃ bb : Int32, (True) ∧ ∀ t, Steps p.tables e below (s₁.setTop (mkF m 91 #[.val (.int p1), .val (.int p2), .val (.int p3), .val (.int p4), .val (.int p5), .val (.int p6), .val (.int i1), .val (.int i2), .val (.int la), .val (.int lb), .val (.int c0), .val (.int c1), .unset, .unset, .unset, .unset, .unset, .unset, .unset, .unset, .unset, .unset, .unset, .unset] [(.int bb)])) t → Steps p.tables e below (s₁.setTop (entryFrame m #[(.int p1), (.int p2), (.int p3), (.int p4), (.int p5), (.int p6)] maxLocals)) t := by
    by_cases hq : (p6 &&& (1 : Int32)) = 0
    · skip
      refine ⟨p4, trivial, fun t k => go109 t ?_⟩
      show Steps p.tables e below (s₁.setTop (mkF m 79 #[.val (.int p1), .val (.int p2), .val (.int p3), .val (.int p4), .val (.int p5), .val (.int p6), .val (.int i1), .val (.int i2), .val (.int la), .val (.int lb), .val (.int c0), .val (.int c1), .unset, .unset, .unset, .unset, .unset, .unset, .unset, .unset, .unset, .unset, .unset, .unset] [])) _
      refine XS.iload X0.here hx rfl (hb hby at_79) rfl ?_
      show Steps p.tables e below (s₁.setTop (mkF m 81 #[.val (.int p1), .val (.int p2), .val (.int p3), .val (.int p4), .val (.int p5), .val (.int p6), .val (.int i1), .val (.int i2), .val (.int la), .val (.int lb), .val (.int c0), .val (.int c1), .unset, .unset, .unset, .unset, .unset, .unset, .unset, .unset, .unset, .unset, .unset, .unset] [(.int p6)])) _
      refine XS.iconst X0.here hx rfl (hb hby at_81) ?_
      show Steps p.tables e below (s₁.setTop (mkF m 82 #[.val (.int p1), .val (.int p2), .val (.int p3), .val (.int p4), .val (.int p5), .val (.int p6), .val (.int i1), .val (.int i2), .val (.int la), .val (.int lb), .val (.int c0), .val (.int c1), .unset, .unset, .unset, .unset, .unset, .unset, .unset, .unset, .unset, .unset, .unset, .unset] [(.int (1 : Int32)), (.int p6)])) _
      refine XS.iand X0.here hx rfl (hb hby at_82) rfl ?_
      show Steps p.tables e below (s₁.setTop (mkF m 83 #[.val (.int p1), .val (.int p2), .val (.int p3), .val (.int p4), .val (.int p5), .val (.int p6), .val (.int i1), .val (.int i2), .val (.int la), .val (.int lb), .val (.int c0), .val (.int c1), .unset, .unset, .unset, .unset, .unset, .unset, .unset, .unset, .unset, .unset, .unset, .unset] [(.int (p6 &&& (1 : Int32)))])) _
      refine XS.ifYes X0.here hx rfl (pc0 := 83) (pc' := 90) rfl (hb hby at_83) rfl ((if0 _ _).trans (teq (hq : (p6 &&& (1 : Int32)) = (0 : Int32))).1) (by decide) (by decide) ?_
      show Steps p.tables e below (s₁.setTop (mkF m 90 #[.val (.int p1), .val (.int p2), .val (.int p3), .val (.int p4), .val (.int p5), .val (.int p6), .val (.int i1), .val (.int i2), .val (.int la), .val (.int lb), .val (.int c0), .val (.int c1), .unset, .unset, .unset, .unset, .unset, .unset, .unset, .unset, .unset, .unset, .unset, .unset] [])) _
      refine XS.iloadN X0.here hx rfl (hb hby at_90) rfl ?_
      show Steps p.tables e below (s₁.setTop (mkF m 91 #[.val (.int p1), .val (.int p2), .val (.int p3), .val (.int p4), .val (.int p5), .val (.int p6), .val (.int i1), .val (.int i2), .val (.int la), .val (.int lb), .val (.int c0), .val (.int c1), .unset, .unset, .unset, .unset, .unset, .unset, .unset, .unset, .unset, .unset, .unset, .unset] [(.int p4)])) _
      exact k
    · skip
      refine ⟨p3, trivial, fun t k => go109 t ?_⟩
      show Steps p.tables e below (s₁.setTop (mkF m 79 #[.val (.int p1), .val (.int p2), .val (.int p3), .val (.int p4), .val (.int p5), .val (.int p6), .val (.int i1), .val (.int i2), .val (.int la), .val (.int lb), .val (.int c0), .val (.int c1), .unset, .unset, .unset, .unset, .unset, .unset, .unset, .unset, .unset, .unset, .unset, .unset] [])) _
      refine XS.iload X0.here hx rfl (hb hby at_79) rfl ?_
      show Steps p.tables e below (s₁.setTop (mkF m 81 #[.val (.int p1), .val (.int p2), .val (.int p3), .val (.int p4), .val (.int p5), .val (.int p6), .val (.int i1), .val (.int i2), .val (.int la), .val (.int lb), .val (.int c0), .val (.int c1), .unset, .unset, .unset, .unset, .unset, .unset, .unset, .unset, .unset, .unset, .unset, .unset] [(.int p6)])) _
      refine XS.iconst X0.here hx rfl (hb hby at_81) ?_
      show Steps p.tables e below (s₁.setTop (mkF m 82 #[.val (.int p1), .val (.int p2), .val (.int p3), .val (.int p4), .val (.int p5), .val (.int p6), .val (.int i1), .val (.int i2), .val (.int la), .val (.int lb), .val (.int c0), .val (.int c1), .unset, .unset, .unset, .unset, .unset, .unset, .unset, .unset, .unset, .unset, .unset, .unset] [(.int (1 : Int32)), (.int p6)])) _
      refine XS.iand X0.here hx rfl (hb hby at_82) rfl ?_
      show Steps p.tables e below (s₁.setTop (mkF m 83 #[.val (.int p1), .val (.int p2), .val (.int p3), .val (.int p4), .val (.int p5), .val (.int p6), .val (.int i1), .val (.int i2), .val (.int la), .val (.int lb), .val (.int c0), .val (.int c1), .unset, .unset, .unset, .unset, .unset, .unset, .unset, .unset, .unset, .unset, .unset, .unset] [(.int (p6 &&& (1 : Int32)))])) _
      refine XS.ifNo X0.here hx rfl (hb hby at_83) rfl ((if0 _ _).trans (feq (hq : ¬ ((p6 &&& (1 : Int32)) = (0 : Int32)))).1) ?_
      show Steps p.tables e below (s₁.setTop (mkF m 86 #[.val (.int p1), .val (.int p2), .val (.int p3), .val (.int p4), .val (.int p5), .val (.int p6), .val (.int i1), .val (.int i2), .val (.int la), .val (.int lb), .val (.int c0), .val (.int c1), .unset, .unset, .unset, .unset, .unset, .unset, .unset, .unset, .unset, .unset, .unset, .unset] [])) _
      refine XS.iloadN X0.here hx rfl (hb hby at_86) rfl ?_
      show Steps p.tables e below (s₁.setTop (mkF m 87 #[.val (.int p1), .val (.int p2), .val (.int p3), .val (.int p4), .val (.int p5), .val (.int p6), .val (.int i1), .val (.int i2), .val (.int la), .val (.int lb), .val (.int c0), .val (.int c1), .unset, .unset, .unset, .unset, .unset, .unset, .unset, .unset, .unset, .unset, .unset, .unset] [(.int p3)])) _
      refine XS.goto X0.here hx rfl (pc0 := 87) (pc' := 91) rfl (hb hby at_87) (by decide) (by decide) ?_
      show Steps p.tables e below (s₁.setTop (mkF m 91 #[.val (.int p1), .val (.int p2), .val (.int p3), .val (.int p4), .val (.int p5), .val (.int p6), .val (.int i1), .val (.int i2), .val (.int la), .val (.int lb), .val (.int c0), .val (.int c1), .unset, .unset, .unset, .unset, .unset, .unset, .unset, .unset, .unset, .unset, .unset, .unset] [(.int p3)])) _
      exact k
  have go111 : ∀ t, Steps p.tables e below (s₁.setTop (mkF m 100 #[.val (.int p1), .val (.int p2), .val (.int p3), .val (.int p4), .val (.int p5), .val (.int p6), .val (.int i1), .val (.int i2), .val (.int la), .val (.int lb), .val (.int c0), .val (.int c1), .val (.int bb), .unset, .unset, .unset, .unset, .unset, .unset, .unset, .unset, .unset, .unset, .unset] [(.int ((bb &&& (255 : Int32)).toUInt32.toUInt16.toUInt32.toInt32))])) t → Steps p.tables e below (s₁.setTop (entryFrame m #[(.int p1), (.int p2), (.int p3), (.int p4), (.int p5), (.int p6)] maxLocals)) t := fun t k => go110 t (by
      show Steps p.tables e below (s₁.setTop (mkF m 91 #[.val (.int p1), .val (.int p2), .val (.int p3), .val (.int p4), .val (.int p5), .val (.int p6), .val (.int i1), .val (.int i2), .val (.int la), .val (.int lb), .val (.int c0), .val (.int c1), .unset, .unset, .unset, .unset, .unset, .unset, .unset, .unset, .unset, .unset, .unset, .unset] [(.int bb)])) _
      refine XS.istore X0.here hx rfl (hb hby at_91) rfl (l' := #[.val (.int p1), .val (.int p2), .val (.int p3), .val (.int p4), .val (.int p5), .val (.int p6), .val (.int i1), .val (.int i2), .val (.int la), .val (.int lb), .val (.int c0), .val (.int c1), .val (.int bb), .unset, .unset, .unset, .unset, .unset, .unset, .unset, .unset, .unset, .unset, .unset]) rfl ?_
      show Steps p.tables e below (s₁.setTop (mkF m 93 #[.val (.int p1), .val (.int p2), .val (.int p3), .val (.int p4), .val (.int p5), .val (.int p6), .val (.int i1), .val (.int i2), .val (.int la), .val (.int lb), .val (.int c0), .val (.int c1), .val (.int bb), .unset, .unset, .unset, .unset, .unset, .unset, .unset, .unset, .unset, .unset, .unset] [])) _
      refine XS.iload X0.here hx rfl (hb hby at_93) rfl ?_
      show Steps p.tables e below (s₁.setTop (mkF m 95 #[.val (.int p1), .val (.int p2), .val (.int p3), .val (.int p4), .val (.int p5), .val (.int p6), .val (.int i1), .val (.int i2), .val (.int la), .val (.int lb), .val (.int c0), .val (.int c1), .val (.int bb), .unset, .unset, .unset, .unset, .unset, .unset, .unset, .unset, .unset, .unset, .unset] [(.int bb)])) _
      refine XS.sipush X0.here hx rfl (hb hby at_95) ?_
      show Steps p.tables e below (s₁.setTop (mkF m 98 #[.val (.int p1), .val (.int p2), .val (.int p3), .val (.int p4), .val (.int p5), .val (.int p6), .val (.int i1), .val (.int i2), .val (.int la), .val (.int lb), .val (.int c0), .val (.int c1), .val (.int bb), .unset, .unset, .unset, .unset, .unset, .unset, .unset, .unset, .unset, .unset, .unset] [(.int (255 : Int32)), (.int bb)])) _
      refine XS.iand X0.here hx rfl (hb hby at_98) rfl ?_
      show Steps p.tables e below (s₁.setTop (mkF m 99 #[.val (.int p1), .val (.int p2), .val (.int p3), .val (.int p4), .val (.int p5), .val (.int p6), .val (.int i1), .val (.int i2), .val (.int la), .val (.int lb), .val (.int c0), .val (.int c1), .val (.int bb), .unset, .unset, .unset, .unset, .unset, .unset, .unset, .unset, .unset, .unset, .unset] [(.int (bb &&& (255 : Int32)))])) _
      refine XS.i2c X0.here hx rfl (hb hby at_99) rfl ?_
      show Steps p.tables e below (s₁.setTop (mkF m 100 #[.val (.int p1), .val (.int p2), .val (.int p3), .val (.int p4), .val (.int p5), .val (.int p6), .val (.int i1), .val (.int i2), .val (.int la), .val (.int lb), .val (.int c0), .val (.int c1), .val (.int bb), .unset, .unset, .unset, .unset, .unset, .unset, .unset, .unset, .unset, .unset, .unset] [(.int ((bb &&& (255 : Int32)).toUInt32.toUInt16.toUInt32.toInt32))])) _
      exact k)
  obtain ⟨d0, rd0, e_d0⟩ : ∃ z : Int32, (¬ nar .char z < 0 ∧ ¬ (255 : Int32) < nar .char z ∧ nar .char z = z) ∧ ((bb &&& (255 : Int32)).toUInt32.toUInt16.toUInt32.toInt32) = z := ⟨_, ⟨(own_and255 _).1, (own_and255 _).2, own_nar2 _⟩, rfl⟩
  rw [e_d0] at go111
  have go112 : ∀ t, Steps p.tables e below (s₁.setTop (mkF m 112 #[.val (.int p1), .val (.int p2), .val (.int p3), .val (.int p4), .val (.int p5), .val (.int p6), .val (.int i1), .val (.int i2), .val (.int la), .val (.int lb), .val (.int c0), .val (.int c1), .val (.int bb), .val (.int d0), .unset, .unset, .unset, .unset, .unset, .unset, .unset, .unset, .unset, .unset] [(.int ((((bb.toUInt32 >>> ((8 : Int32) &&& 31).toUInt32).toInt32) &&& (255 : Int32)).toUInt32.toUInt16.toUInt32.toInt32))])) t → Steps p.tables e below (s₁.setTop (entryFrame m #[(.int p1), (.int p2), (.int p3), (.int p4), (.int p5), (.int p6)] maxLocals)) t := fun t k => go111 t (by
      show Steps p.tables e below (s₁.setTop (mkF m 100 #[.val (.int p1), .val (.int p2), .val (.int p3), .val (.int p4), .val (.int p5), .val (.int p6), .val (.int i1), .val (.int i2), .val (.int la), .val (.int lb), .val (.int c0), .val (.int c1), .val (.int bb), .unset, .unset, .unset, .unset, .unset, .unset, .unset, .unset, .unset, .unset, .unset] [(.int d0)])) _
      refine XS.istore X0.here hx rfl (hb hby at_100) rfl (l' := #[.val (.int p1), .val (.int p2), .val (.int p3), .val (.int p4), .val (.int p5), .val (.int p6), .val (.int i1), .val (.int i2), .val (.int la), .val (.int lb), .val (.int c0), .val (.int c1), .val (.int bb), .val (.int d0), .unset, .unset, .unset, .unset, .unset, .unset, .unset, .unset, .unset, .unset]) rfl ?_
      show Steps p.tables e below (s₁.setTop (mkF m 102 #[.val (.int p1), .val (.int p2), .val (.int p3), .val (.int p4), .val (.int p5), .val (.int p6), .val (.int i1), .val (.int i2), .val (.int la), .val (.int lb), .val (.int c0), .val (.int c1), .val (.int bb), .val (.int d0), .unset, .unset, .unset, .unset, .unset, .unset, .unset, .unset, .unset, .unset] [])) _
      refine XS.iload X0.here hx rfl (hb hby at_102) rfl ?_
      show Steps p.tables e below (s₁.setTop (mkF m 104 #[.val (.int p1), .val (.int p2), .val (.int p3), .val (.int p4), .val (.int p5), .val (.int p6), .val (.int i1), .val (.int i2), .val (.int la), .val (.int lb), .val (.int c0), .val (.int c1), .val (.int bb), .val (.int d0), .unset, .unset, .unset, .unset, .unset, .unset, .unset, .unset, .unset, .unset] [(.int bb)])) _
      refine XS.bipush X0.here hx rfl (hb hby at_104) ?_
      show Steps p.tables e below (s₁.setTop (mkF m 106 #[.val (.int p1), .val (.int p2), .val (.int p3), .val (.int p4), .val (.int p5), .val (.int p6), .val (.int i1), .val (.int i2), .val (.int la), .val (.int lb), .val (.int c0), .val (.int c1), .val (.int bb), .val (.int d0), .unset, .unset, .unset, .unset, .unset, .unset, .unset, .unset, .unset, .unset] [(.int (8 : Int32)), (.int bb)])) _
      refine XS.iushr X0.here hx rfl (hb hby at_106) rfl ?_
      show Steps p.tables e below (s₁.setTop (mkF m 107 #[.val (.int p1), .val (.int p2), .val (.int p3), .val (.int p4), .val (.int p5), .val (.int p6), .val (.int i1), .val (.int i2), .val (.int la), .val (.int lb), .val (.int c0), .val (.int c1), .val (.int bb), .val (.int d0), .unset, .unset, .unset, .unset, .unset, .unset, .unset, .unset, .unset, .unset] [(.int ((bb.toUInt32 >>> ((8 : Int32) &&& 31).toUInt32).toInt32))])) _
      refine XS.sipush X0.here hx rfl (hb hby at_107) ?_
      show Steps p.tables e below (s₁.setTop (mkF m 110 #[.val (.int p1), .val (.int p2), .val (.int p3), .val (.int p4), .val (.int p5), .val (.int p6), .val (.int i1), .val (.int i2), .val (.int la), .val (.int lb), .val (.int c0), .val (.int c1), .val (.int bb), .val (.int d0), .unset, .unset, .unset, .unset, .unset, .unset, .unset, .unset, .unset, .unset] [(.int (255 : Int32)), (.int ((bb.toUInt32 >>> ((8 : Int32) &&& 31).toUInt32).toInt32))])) _
      refine XS.iand X0.here hx rfl (hb hby at_110) rfl ?_
      show Steps p.tables e below (s₁.setTop (mkF m 111 #[.val (.int p1), .val (.int p2), .val (.int p3), .val (.int p4), .val (.int p5), .val (.int p6), .val (.int i1), .val (.int i2), .val (.int la), .val (.int lb), .val (.int c0), .val (.int c1), .val (.int bb), .val (.int d0), .unset, .unset, .unset, .unset, .unset, .unset, .unset, .unset, .unset, .unset] [(.int (((bb.toUInt32 >>> ((8 : Int32) &&& 31).toUInt32).toInt32) &&& (255 : Int32)))])) _
      refine XS.i2c X0.here hx rfl (hb hby at_111) rfl ?_
      show Steps p.tables e below (s₁.setTop (mkF m 112 #[.val (.int p1), .val (.int p2), .val (.int p3), .val (.int p4), .val (.int p5), .val (.int p6), .val (.int i1), .val (.int i2), .val (.int la), .val (.int lb), .val (.int c0), .val (.int c1), .val (.int bb), .val (.int d0), .unset, .unset, .unset, .unset, .unset, .unset, .unset, .unset, .unset, .unset] [(.int ((((bb.toUInt32 >>> ((8 : Int32) &&& 31).toUInt32).toInt32) &&& (255 : Int32)).toUInt32.toUInt16.toUInt32.toInt32))])) _
      exact k)
  obtain ⟨d1, rd1, e_d1⟩ : ∃ z : Int32, (¬ nar .char z < 0 ∧ ¬ (255 : Int32) < nar .char z ∧ nar .char z = z) ∧ ((((bb.toUInt32 >>> ((8 : Int32) &&& 31).toUInt32).toInt32) &&& (255 : Int32)).toUInt32.toUInt16.toUInt32.toInt32) = z := ⟨_, ⟨(own_and255 _).1, (own_and255 _).2, own_nar2 _⟩, rfl⟩
  rw [e_d1] at go112
  have go114 : ∀ t, Steps p.tables e below (s₁.setTop (mkF m 120 #[.val (.int p1), .val (.int p2), .val (.int p3), .val (.int p4), .val (.int p5), .val (.int p6), .val (.int i1), .val (.int i2), .val (.int la), .val (.int lb), .val (.int c0), .val (.int c1), .val (.int bb), .val (.int d0), .val (.int d1), .unset, .unset, .unset, .unset, .unset, .unset, .unset, .unset, .unset] [(.int c1), (.int c0), (.int la)])) t → Steps p.tables e below (s₁.setTop (entryFrame m #[(.int p1), (.int p2), (.int p3), (.int p4), (.int p5), (.int p6)] maxLocals)) t := fun t k => go112 t (by
      show Steps p.tables e below (s₁.setTop (mkF m 112 #[.val (.int p1), .val (.int p2), .val (.int p3), .val (.int p4), .val (.int p5), .val (.int p6), .val (.int i1), .val (.int i2), .val (.int la), .val (.int lb), .val (.int c0), .val (.int c1), .val (.int bb), .val (.int d0), .unset, .unset, .unset, .unset, .unset, .unset, .unset, .unset, .unset, .unset] [(.int d1)])) _
      refine XS.istore X0.here hx rfl (hb hby at_112) rfl (l' := #[.val (.int p1), .val (.int p2), .val (.int p3), .val (.int p4), .val (.int p5), .val (.int p6), .val (.int i1), .val (.int i2), .val (.int la), .val (.int lb), .val (.int c0), .val (.int c1), .val (.int bb), .val (.int d0), .val (.int d1), .unset, .unset, .unset, .unset, .unset, .unset, .unset, .unset, .unset]) rfl ?_
      show Steps p.tables e below (s₁.setTop (mkF m 114 #[.val (.int p1), .val (.int p2), .val (.int p3), .val (.int p4), .val (.int p5), .val (.int p6), .val (.int i1), .val (.int i2), .val (.int la), .val (.int lb), .val (.int c0), .val (.int c1), .val (.int bb), .val (.int d0), .val (.int d1), .unset, .unset, .unset, .unset, .unset, .unset, .unset, .unset, .unset] [])) _
      refine XS.iload X0.here hx rfl (hb hby at_114) rfl ?_
      show Steps p.tables e below (s₁.setTop (mkF m 116 #[.val (.int p1), .val (.int p2), .val (.int p3), .val (.int p4), .val (.int p5), .val (.int p6), .val (.int i1), .val (.int i2), .val (.int la), .val (.int lb), .val (.int c0), .val (.int c1), .val (.int bb), .val (.int d0), .val (.int d1), .unset, .unset, .unset, .unset, .unset, .unset, .unset, .unset, .unset] [(.int la)])) _
      refine XS.iload X0.here hx rfl (hb hby at_116) rfl ?_
      show Steps p.tables e below (s₁.setTop (mkF m 118 #[.val (.int p1), .val (.int p2), .val (.int p3), .val (.int p4), .val (.int p5), .val (.int p6), .val (.int i1), .val (.int i2), .val (.int la), .val (.int lb), .val (.int c0), .val (.int c1), .val (.int bb), .val (.int d0), .val (.int d1), .unset, .unset, .unset, .unset, .unset, .unset, .unset, .unset, .unset] [(.int c0), (.int la)])) _
      refine XS.iload X0.here hx rfl (hb hby at_118) rfl ?_
      exact k)
  obtain ⟨_, _, ⟨T113, L113, kk113, nn113⟩, -, Y113, hT113, gr113, ⟨Lc113, hQ113, l113, y113, z113, C113⟩, st113⟩ := callSS X0 hx (y := (⟨"com/example/tramway/tramway/idl/TokenIsPinLaw", "text", "(ICC)Ljava/lang/String;"⟩ : MethodName)) hown (mvT hZ (hw _ (List.mem_of_getElem? (i := 1) rfl))) (mvT hZ (hw _ (List.mem_of_getElem? (i := 2) rfl))) (mvT hZ (hw _ (List.mem_of_getElem? (i := 3) rfl))) (mvT hZ (hw _ (List.mem_of_getElem? (i := 4) rfl))) (by decide) (backOfSH (W := 0) (rmX l Z a0 hw [] la c0 c1 G1 h0 n0 Z0 O2 P5 X00 ⟨rc0.1, rc0.2.1⟩ ⟨rc1.1, rc1.2.1⟩) hZ (hw _ (List.mem_of_getElem? (i := 4) rfl)) (hw _ (List.mem_of_getElem? (i := 3) rfl)) (by decide) (by decide) hEL R0.1) (g := (mkF m 120 #[.val (.int p1), .val (.int p2), .val (.int p3), .val (.int p4), .val (.int p5), .val (.int p6), .val (.int i1), .val (.int i2), .val (.int la), .val (.int lb), .val (.int c0), .val (.int c1), .val (.int bb), .val (.int d0), .val (.int d1), .unset, .unset, .unset, .unset, .unset, .unset, .unset, .unset, .unset] [(.int c1), (.int c0), (.int la)])) rfl (by rw [hml]; rfl) (argsL := [(.int la), (.int c0), (.int c1)]) (rest := []) (lenOf pd__ICC_Ljava_lang_String_ rfl) rfl (by show 2 * 0 + _ ≤ _; exact Nat.le_of_eq rfl) (hb hby at_120) (fun _ _ => ⟨rfl, e0, Nat.le_of_ble_eq_true rfl, Nat.le_of_ble_eq_true rfl⟩)
  dsimp only [Pt.U, Pt.locs, Pt.cells, Pt.slots] at Y113 hT113 gr113 l113 y113 z113 C113 st113 hQ113
  subst l113 y113 z113
  obtain ⟨X113, hS113, hZ, hown⟩ := rebS hS0 (by rw [e0]; exact hk0) Y113 hT113 gr113 hZ hown
  have hk113 := Nat.le_refl T113.heap.size
  obtain ⟨x, t_x, k_x, rfl, Nq113, K113, g_x, le_x, E_x, F_value_x, F_coder_x, V_t_x⟩ := hQ113
  have N113 := Fr.app N0 Nq113
  have R115 := R0.trans C113
  have lt_x := E_x.lt
  have lt_t_x := V_t_x.lt
  have Z_116 := (Nat.le_trans Z0 K113.1)
  have O_117 := (X00.keep K113 all0)
  have go119 : ∀ t, Steps p.tables e below (T113.setTop (mkF m 131 #[.val (.int p1), .val (.int p2), .val (.int p3), .val (.int p4), .val (.int p5), .val (.int p6), .val (.int i1), .val (.int i2), .val (.int la), .val (.int lb), .val (.int c0), .val (.int c1), .val (.int bb), .val (.int d0), .val (.int d1), .val (.ref x), .unset, .unset, .unset, .unset, .unset, .unset, .unset, .unset] [(.int d1), (.int d0), (.int lb)])) t → Steps p.tables e below (s₁.setTop (entryFrame m #[(.int p1), (.int p2), (.int p3), (.int p4), (.int p5), (.int p6)] maxLocals)) t := fun t k => go114 t (by
      show Steps p.tables e below (s₁.setTop (mkF m 120 #[.val (.int p1), .val (.int p2), .val (.int p3), .val (.int p4), .val (.int p5), .val (.int p6), .val (.int i1), .val (.int i2), .val (.int la), .val (.int lb), .val (.int c0), .val (.int c1), .val (.int bb), .val (.int d0), .val (.int d1), .unset, .unset, .unset, .unset, .unset, .unset, .unset, .unset, .unset] [(.int c1), (.int c0), (.int la)])) _
      refine st113.trans ?_
      show Steps p.tables e below (T113.setTop (mkF m 123 #[.val (.int p1), .val (.int p2), .val (.int p3), .val (.int p4), .val (.int p5), .val (.int p6), .val (.int i1), .val (.int i2), .val (.int la), .val (.int lb), .val (.int c0), .val (.int c1), .val (.int bb), .val (.int d0), .val (.int d1), .unset, .unset, .unset, .unset, .unset, .unset, .unset, .unset, .unset] [(.ref x)])) _
      refine XS.astore X113.here hx rfl (hb hby at_123) rfl rfl (l' := #[.val (.int p1), .val (.int p2), .val (.int p3), .val (.int p4), .val (.int p5), .val (.int p6), .val (.int i1), .val (.int i2), .val (.int la), .val (.int lb), .val (.int c0), .val (.int c1), .val (.int bb), .val (.int d0), .val (.int d1), .val (.ref x), .unset, .unset, .unset, .unset, .unset, .unset, .unset, .unset]) rfl ?_
      show Steps p.tables e below (T113.setTop (mkF m 125 #[.val (.int p1), .val (.int p2), .val (.int p3), .val (.int p4), .val (.int p5), .val (.int p6), .val (.int i1), .val (.int i2), .val (.int la), .val (.int lb), .val (.int c0), .val (.int c1), .val (.int bb), .val (.int d0), .val (.int d1), .val (.ref x), .unset, .unset, .unset, .unset, .unset, .unset, .unset, .unset] [])) _
      refine XS.iload X113.here hx rfl (hb hby at_125) rfl ?_
      show Steps p.tables e below (T113.setTop (mkF m 127 #[.val (.int p1), .val (.int p2), .val (.int p3), .val (.int p4), .val (.int p5), .val (.int p6), .val (.int i1), .val (.int i2), .val (.int la), .val (.int lb), .val (.int c0), .val (.int c1), .val (.int bb), .val (.int d0), .val (.int d1), .val (.ref x), .unset, .unset, .unset, .unset, .unset, .unset, .unset, .unset] [(.int lb)])) _
      refine XS.iload X113.here hx rfl (hb hby at_127) rfl ?_
      show Steps p.tables e below (T113.setTop (mkF m 129 #[.val (.int p1), .val (.int p2), .val (.int p3), .val (.int p4), .val (.int p5), .val (.int p6), .val (.int i1), .val (.int i2), .val (.int la), .val (.int lb), .val (.int c0), .val (.int c1), .val (.int bb), .val (.int d0), .val (.int d1), .val (.ref x), .unset, .unset, .unset, .unset, .unset, .unset, .unset, .unset] [(.int d0), (.int lb)])) _
      refine XS.iload X113.here hx rfl (hb hby at_129) rfl ?_
      exact k)
  obtain ⟨_, _, ⟨T118, L118, kk118, nn118⟩, -, Y118, hT118, gr118, ⟨Lc118, hQ118, l118, y118, z118, C118⟩, st118⟩ := callSS X113 hx (y := (⟨"com/example/tramway/tramway/idl/TokenIsPinLaw", "text", "(ICC)Ljava/lang/String;"⟩ : MethodName)) hown (mvT hZ (hw _ (List.mem_of_getElem? (i := 1) rfl))) (mvT hZ (hw _ (List.mem_of_getElem? (i := 2) rfl))) (mvT hZ (hw _ (List.mem_of_getElem? (i := 3) rfl))) (mvT hZ (hw _ (List.mem_of_getElem? (i := 4) rfl))) (by decide) (backOfSH (W := 0) (rmX l Z a0 hw [] lb d0 d1 G1 T113.heap n0 Z_116 O2 P5 O_117 ⟨rd0.1, rd0.2.1⟩ ⟨rd1.1, rd1.2.1⟩) hZ (hw _ (List.mem_of_getElem? (i := 4) rfl)) (hw _ (List.mem_of_getElem? (i := 3) rfl)) (by decide) (by decide) hEL R115.1) (g := (mkF m 131 #[.val (.int p1), .val (.int p2), .val (.int p3), .val (.int p4), .val (.int p5), .val (.int p6), .val (.int i1), .val (.int i2), .val (.int la), .val (.int lb), .val (.int c0), .val (.int c1), .val (.int bb), .val (.int d0), .val (.int d1), .val (.ref x), .unset, .unset, .unset, .unset, .unset, .unset, .unset, .unset] [(.int d1), (.int d0), (.int lb)])) rfl (by rw [hml]; rfl) (argsL := [(.int lb), (.int d0), (.int d1)]) (rest := []) (lenOf pd__ICC_Ljava_lang_String_ rfl) rfl (by show 2 * 0 + _ ≤ _; exact Nat.le_of_eq rfl) (hb hby at_131) (fun _ _ => ⟨rfl, rfl, Nat.le_of_ble_eq_true rfl, Nat.le_of_ble_eq_true rfl⟩)
  dsimp only [Pt.U, Pt.locs, Pt.cells, Pt.slots] at Y118 hT118 gr118 l118 y118 z118 C118 st118 hQ118
  subst l118 y118 z118
  obtain ⟨X118, hS118, hZ, hown⟩ := rebS hS113 hk113 Y118 hT118 gr118 hZ hown
  have hk118 := Nat.le_refl T118.heap.size
  obtain ⟨y, t_y, k_y, rfl, Nq118, K118, g_y, le_y, E_y, F_value_y, F_coder_y, V_t_y⟩ := hQ118
  have N118 := Fr.app N113 Nq118
  have R120 := R115.trans C118
  have lt_y := E_y.lt
  have lt_t_y := V_t_y.lt
  have O_121 := (O_117.keep K118 all0)
  obtain ⟨_, _, ⟨T122, L122, kk122, nn122⟩, -, X122, ⟨Lc122, hQ122, l122, y122, z122⟩, st122⟩ := Jvm.LawKit.callS X118 hx (y := (⟨"com/example/tramway/tramway/idl/TokenIsPinLaw", "kind", "(I)Lcom/example/tramway/tramway/idl/Token$Kind;"⟩ : MethodName)) hown (mvT hZ (hw _ (List.mem_of_getElem? (i := 27) rfl))) (mvT hZ (hw _ (List.mem_of_getElem? (i := 28) rfl))) (mvT hZ (hw _ (List.mem_of_getElem? (i := 3) rfl))) (mvT hZ (hw _ (List.mem_of_getElem? (i := 29) rfl))) (by decide) (backOf (W := 0) (rmK l Z a0 hw [] i1 w0 w1 w2 w3 w4 w5 w6 w7 w8 w9 w10 w11 w12 w13 w14 w15 w16 T118.heap n0 (S0.ext O_121.2) (S1.ext O_121.2) (S2.ext O_121.2) (S3.ext O_121.2) (S4.ext O_121.2) (S5.ext O_121.2) (S6.ext O_121.2) (S7.ext O_121.2) (S8.ext O_121.2) (S9.ext O_121.2) (S10.ext O_121.2) (S11.ext O_121.2) (S12.ext O_121.2) (S13.ext O_121.2) (S14.ext O_121.2) (S15.ext O_121.2) (S16.ext O_121.2)) hZ (hw _ (List.mem_of_getElem? (i := 29) rfl)) (hw _ (List.mem_of_getElem? (i := 3) rfl)) (by decide) (by decide)) (g := (mkF m 138 #[.val (.int p1), .val (.int p2), .val (.int p3), .val (.int p4), .val (.int p5), .val (.int p6), .val (.int i1), .val (.int i2), .val (.int la), .val (.int lb), .val (.int c0), .val (.int c1), .val (.int bb), .val (.int d0), .val (.int d1), .val (.ref x), .val (.ref y), .unset, .unset, .unset, .unset, .unset, .unset, .unset] [(.int i1)])) rfl (by rw [hml]; rfl) (argsL := [(.int i1)]) (rest := []) (lenOf pd__I_Lcom_example_tramway_tramway_idl_Token_Kind_ rfl) rfl (by show 2 * 0 + _ ≤ _; exact Nat.le_of_eq rfl) (hb hby at_138) (fun _ _ => ⟨rfl, rfl, Nat.le_of_ble_eq_true rfl, Nat.le_of_ble_eq_true rfl⟩)
  dsimp only [Pt.U, Pt.locs, Pt.cells, Pt.slots] at X122 l122 y122 z122 st122 hQ122
  subst l122 y122 z122
  obtain ⟨rfl, Nq122, e122⟩ := hQ122
  have N122 := Fr.app N118 Nq122
  have go123 : ∀ t, Steps p.tables e below (T122.setTop (mkF m 141 #[.val (.int p1), .val (.int p2), .val (.int p3), .val (.int p4), .val (.int p5), .val (.int p6), .val (.int i1), .val (.int i2), .val (.int la), .val (.int lb), .val (.int c0), .val (.int c1), .val (.int bb), .val (.int d0), .val (.int d1), .val (.ref x), .val (.ref y), .unset, .unset, .unset, .unset, .unset, .unset, .unset] [(.ref (own_kd i1 w0 w1 w2 w3 w4 w5 w6 w7 w8 w9 w10 w11 w12 w13 w14 w15 w16))])) t → Steps p.tables e below (s₁.setTop (entryFrame m #[(.int p1), (.int p2), (.int p3), (.int p4), (.int p5), (.int p6)] maxLocals)) t := fun t k => go119 t (by
      show Steps p.tables e below (T113.setTop (mkF m 131 #[.val (.int p1), .val (.int p2), .val (.int p3), .val (.int p4), .val (.int p5), .val (.int p6), .val (.int i1), .val (.int i2), .val (.int la), .val (.int lb), .val (.int c0), .val (.int c1), .val (.int bb), .val (.int d0), .val (.int d1), .val (.ref x), .unset, .unset, .unset, .unset, .unset, .unset, .unset, .unset] [(.int d1), (.int d0), (.int lb)])) _
      refine st118.trans ?_
      show Steps p.tables e below (T118.setTop (mkF m 134 #[.val (.int p1), .val (.int p2), .val (.int p3), .val (.int p4), .val (.int p5), .val (.int p6), .val (.int i1), .val (.int i2), .val (.int la), .val (.int lb), .val (.int c0), .val (.int c1), .val (.int bb), .val (.int d0), .val (.int d1), .val (.ref x), .unset, .unset, .unset, .unset, .unset, .unset, .unset, .unset] [(.ref y)])) _
      refine XS.astore X118.here hx rfl (hb hby at_134) rfl rfl (l' := #[.val (.int p1), .val (.int p2), .val (.int p3), .val (.int p4), .val (.int p5), .val (.int p6), .val (.int i1), .val (.int i2), .val (.int la), .val (.int lb), .val (.int c0), .val (.int c1), .val (.int bb), .val (.int d0), .val (.int d1), .val (.ref x), .val (.ref y), .unset, .unset, .unset, .unset, .unset, .unset, .unset]) rfl ?_
      show Steps p.tables e below (T118.setTop (mkF m 136 #[.val (.int p1), .val (.int p2), .val (.int p3), .val (.int p4), .val (.int p5), .val (.int p6), .val (.int i1), .val (.int i2), .val (.int la), .val (.int lb), .val (.int c0), .val (.int c1), .val (.int bb), .val (.int d0), .val (.int d1), .val (.ref x), .val (.ref y), .unset, .unset, .unset, .unset, .unset, .unset, .unset] [])) _
      refine XS.iload X118.here hx rfl (hb hby at_136) rfl ?_
      show Steps p.tables e below (T118.setTop (mkF m 138 #[.val (.int p1), .val (.int p2), .val (.int p3), .val (.int p4), .val (.int p5), .val (.int p6), .val (.int i1), .val (.int i2), .val (.int la), .val (.int lb), .val (.int c0), .val (.int c1), .val (.int bb), .val (.int d0), .val (.int d1), .val (.ref x), .val (.ref y), .unset, .unset, .unset, .unset, .unset, .unset, .unset] [(.int i1)])) _
      refine st122 _ ?_
      show Steps p.tables e below (T122.setTop (mkF m 141 #[.val (.int p1), .val (.int p2), .val (.int p3), .val (.int p4), .val (.int p5), .val (.int p6), .val (.int i1), .val (.int i2), .val (.int la), .val (.int lb), .val (.int c0), .val (.int c1), .val (.int bb), .val (.int d0), .val (.int d1), .val (.ref x), .val (.ref y), .unset, .unset, .unset, .unset, .unset, .unset, .unset] [(.ref (own_kd i1 w0 w1 w2 w3 w4 w5 w6 w7 w8 w9 w10 w11 w12 w13 w14 w15 w16))])) _
      exact k)
  obtain ⟨kx, hkx⟩ : ∃ z : Addr, own_kd i1 w0 w1 w2 w3 w4 w5 w6 w7 w8 w9 w10 w11 w12 w13 w14 w15 w16 = z := ⟨_, rfl⟩
  rw [hkx] at go123
  obtain ⟨_, _, ⟨T124, L124, kk124, nn124⟩, -, X124, ⟨Lc124, hQ124, l124, y124, z124⟩, st124⟩ := Jvm.LawKit.callS X122 hx (y := (⟨"com/example/tramway/tramway/idl/TokenIsPinLaw", "kind", "(I)Lcom/example/tramway/tramway/idl/Token$Kind;"⟩ : MethodName)) hown (mvT hZ (hw _ (List.mem_of_getElem? (i := 27) rfl))) (mvT hZ (hw _ (List.mem_of_getElem? (i := 28) rfl))) (mvT hZ (hw _ (List.mem_of_getElem? (i := 3) rfl))) (mvT hZ (hw _ (List.mem_of_getElem? (i := 29) rfl))) (by decide) (backOf (W := 0) (rmK l Z a0 hw [] i2 w0 w1 w2 w3 w4 w5 w6 w7 w8 w9 w10 w11 w12 w13 w14 w15 w16 T118.heap n0 (S0.ext O_121.2) (S1.ext O_121.2) (S2.ext O_121.2) (S3.ext O_121.2) (S4.ext O_121.2) (S5.ext O_121.2) (S6.ext O_121.2) (S7.ext O_121.2) (S8.ext O_121.2) (S9.ext O_121.2) (S10.ext O_121.2) (S11.ext O_121.2) (S12.ext O_121.2) (S13.ext O_121.2) (S14.ext O_121.2) (S15.ext O_121.2) (S16.ext O_121.2)) hZ (hw _ (List.mem_of_getElem? (i := 29) rfl)) (hw _ (List.mem_of_getElem? (i := 3) rfl)) (by decide) (by decide)) (g := (mkF m 145 #[.val (.int p1), .val (.int p2), .val (.int p3), .val (.int p4), .val (.int p5), .val (.int p6), .val (.int i1), .val (.int i2), .val (.int la), .val (.int lb), .val (.int c0), .val (.int c1), .val (.int bb), .val (.int d0), .val (.int d1), .val (.ref x), .val (.ref y), .val (.ref kx), .unset, .unset, .unset, .unset, .unset, .unset] [(.int i2)])) rfl (by rw [hml]; rfl) (argsL := [(.int i2)]) (rest := []) (lenOf pd__I_Lcom_example_tramway_tramway_idl_Token_Kind_ rfl) rfl (by show 2 * 0 + _ ≤ _; exact Nat.le_of_eq rfl) (hb hby at_145) (fun _ _ => ⟨rfl, e122, Nat.le_of_ble_eq_true rfl, Nat.le_of_ble_eq_true rfl⟩)
  dsimp only [Pt.U, Pt.locs, Pt.cells, Pt.slots] at X124 l124 y124 z124 st124 hQ124
  subst l124 y124 z124
  obtain ⟨rfl, Nq124, e124⟩ := hQ124
  have N124 := Fr.app N122 Nq124
  have go125 : ∀ t, Steps p.tables e below (T124.setTop (mkF m 148 #[.val (.int p1), .val (.int p2), .val (.int p3), .val (.int p4), .val (.int p5), .val (.int p6), .val (.int i1), .val (.int i2), .val (.int la), .val (.int lb), .val (.int c0), .val (.int c1), .val (.int bb), .val (.int d0), .val (.int d1), .val (.ref x), .val (.ref y), .val (.ref kx), .unset, .unset, .unset, .unset, .unset, .unset] [(.ref (own_kd i2 w0 w1 w2 w3 w4 w5 w6 w7 w8 w9 w10 w11 w12 w13 w14 w15 w16))])) t → Steps p.tables e below (s₁.setTop (entryFrame m #[(.int p1), (.int p2), (.int p3), (.int p4), (.int p5), (.int p6)] maxLocals)) t := fun t k => go123 t (by
      show Steps p.tables e below (T122.setTop (mkF m 141 #[.val (.int p1), .val (.int p2), .val (.int p3), .val (.int p4), .val (.int p5), .val (.int p6), .val (.int i1), .val (.int i2), .val (.int la), .val (.int lb), .val (.int c0), .val (.int c1), .val (.int bb), .val (.int d0), .val (.int d1), .val (.ref x), .val (.ref y), .unset, .unset, .unset, .unset, .unset, .unset, .unset] [(.ref kx)])) _
      refine XS.astore X122.here hx rfl (hb hby at_141) rfl rfl (l' := #[.val (.int p1), .val (.int p2), .val (.int p3), .val (.int p4), .val (.int p5), .val (.int p6), .val (.int i1), .val (.int i2), .val (.int la), .val (.int lb), .val (.int c0), .val (.int c1), .val (.int bb), .val (.int d0), .val (.int d1), .val (.ref x), .val (.ref y), .val (.ref kx), .unset, .unset, .unset, .unset, .unset, .unset]) rfl ?_
      show Steps p.tables e below (T122.setTop (mkF m 143 #[.val (.int p1), .val (.int p2), .val (.int p3), .val (.int p4), .val (.int p5), .val (.int p6), .val (.int i1), .val (.int i2), .val (.int la), .val (.int lb), .val (.int c0), .val (.int c1), .val (.int bb), .val (.int d0), .val (.int d1), .val (.ref x), .val (.ref y), .val (.ref kx), .unset, .unset, .unset, .unset, .unset, .unset] [])) _
      refine XS.iload X122.here hx rfl (hb hby at_143) rfl ?_
      show Steps p.tables e below (T122.setTop (mkF m 145 #[.val (.int p1), .val (.int p2), .val (.int p3), .val (.int p4), .val (.int p5), .val (.int p6), .val (.int i1), .val (.int i2), .val (.int la), .val (.int lb), .val (.int c0), .val (.int c1), .val (.int bb), .val (.int d0), .val (.int d1), .val (.ref x), .val (.ref y), .val (.ref kx), .unset, .unset, .unset, .unset, .unset, .unset] [(.int i2)])) _
      refine st124 _ ?_
      show Steps p.tables e below (T124.setTop (mkF m 148 #[.val (.int p1), .val (.int p2), .val (.int p3), .val (.int p4), .val (.int p5), .val (.int p6), .val (.int i1), .val (.int i2), .val (.int la), .val (.int lb), .val (.int c0), .val (.int c1), .val (.int bb), .val (.int d0), .val (.int d1), .val (.ref x), .val (.ref y), .val (.ref kx), .unset, .unset, .unset, .unset, .unset, .unset] [(.ref (own_kd i2 w0 w1 w2 w3 w4 w5 w6 w7 w8 w9 w10 w11 w12 w13 w14 w15 w16))])) _
      exact k)
  obtain ⟨ky, hky⟩ : ∃ z : Addr, own_kd i2 w0 w1 w2 w3 w4 w5 w6 w7 w8 w9 w10 w11 w12 w13 w14 w15 w16 = z := ⟨_, rfl⟩
  rw [hky] at go125
  obtain ⟨T126, h126, X126, e126, E126, A126, D126, -, st126⟩ := newO X124 hx hZ hown (hw _ (List.mem_of_getElem? (i := 33) rfl)) (hw _ (List.mem_of_getElem? (i := 34) rfl)) (hw _ (List.mem_of_getElem? (i := 35) rfl)) e124 (g := (mkF m 150 #[.val (.int p1), .val (.int p2), .val (.int p3), .val (.int p4), .val (.int p5), .val (.int p6), .val (.int i1), .val (.int i2), .val (.int la), .val (.int lb), .val (.int c0), .val (.int c1), .val (.int bb), .val (.int d0), .val (.int d1), .val (.ref x), .val (.ref y), .val (.ref kx), .val (.ref ky), .unset, .unset, .unset, .unset, .unset] [])) rfl (hb hby at_150) (by decide) (by decide)
  obtain ⟨po, g126⟩ : ∃ z, z = T118.heap.size := ⟨_, rfl⟩
  rw [← g126] at A126 D126 st126
  have Z_127 := (Nat.le_trans Z_116 K118.1)
  have g_po : n0 ≤ po := Nat.le_trans Z_127 (Nat.le_of_eq g126.symm)
  have lt_x_128 := (Nat.lt_of_lt_of_le lt_x K118.1)
  have ne_x_po : x ≠ po := (Nat.ne_of_lt (Nat.lt_of_lt_of_le lt_x_128 (Nat.le_of_eq g126.symm)))
  have lt_t_x_129 := (Nat.lt_of_lt_of_le lt_t_x K118.1)
  have ne_t_x_po : t_x ≠ po := (Nat.ne_of_lt (Nat.lt_of_lt_of_le lt_t_x_129 (Nat.le_of_eq g126.symm)))
  have ne_y_po : y ≠ po := (Nat.ne_of_lt (Nat.lt_of_lt_of_le lt_y (Nat.le_of_eq g126.symm)))
  have ne_t_y_po : t_y ≠ po := (Nat.ne_of_lt (Nat.lt_of_lt_of_le lt_t_y (Nat.le_of_eq g126.symm)))
  have F_sFile_po : Fld Z h126 po "com/example/tramway/tramway/idl/Position" "sFile" "Ljava/lang/String;" .null := D126 (Or.inr (hw _ (List.mem_of_getElem? (i := 46) rfl))) (ty := (.object "java/lang/String")) (by decide)
  have F_nLine_po : Fld Z h126 po "com/example/tramway/tramway/idl/Position" "nLine" "I" (.int (0 : Int32)) := D126 (Or.inr (hw _ (List.mem_of_getElem? (i := 48) rfl))) (ty := .int) (by decide)
  have K126 : Keep T118.heap h126 [] := (Keep.refl _ []).ext E126
  have hs130 : ∀ sx_ ∈ ([] : List Addr), Safe Z own_EL T118.vm T118.heap sx_ := all0
  have R130 := R120.trans (CHr.keep K126 hs130 R120.1)
  have lt_po : po < h126.size := A126.lt
  obtain ⟨_, _, ⟨T131, L131, kk131, nn131⟩, -, X131, ⟨Lc131, hQ131, l131, y131, z131⟩, st131⟩ := X126.specialBack hx (y := (⟨"com/example/tramway/tramway/idl/Position", "<init>", "(Ljava/lang/String;I)V"⟩ : MethodName)) rfl hown (mvT hZ (hw _ (List.mem_of_getElem? (i := 36) rfl))) (mvT hZ (hw _ (List.mem_of_getElem? (i := 37) rfl))) (mvT hZ (hw _ (List.mem_of_getElem? (i := 38) rfl))) (by decide) (backOf (W := 1) (rmP l Z a0 hw [] po x p5 _ _ h126 n0 g_po A126 F_sFile_po F_nLine_po) hZ (hw _ (List.mem_of_getElem? (i := 38) rfl)) (hw _ (List.mem_of_getElem? (i := 35) rfl)) (by decide) (by decide)) (g := (mkF m 158 #[.val (.int p1), .val (.int p2), .val (.int p3), .val (.int p4), .val (.int p5), .val (.int p6), .val (.int i1), .val (.int i2), .val (.int la), .val (.int lb), .val (.int c0), .val (.int c1), .val (.int bb), .val (.int d0), .val (.int d1), .val (.ref x), .val (.ref y), .val (.ref kx), .val (.ref ky), .unset, .unset, .unset, .unset, .unset] [(.int p5), (.ref x), (.ref po), (.ref po)])) rfl (by rw [hml]; rfl) (Steps.refl _) (a := po) (argsL := [(.ref x), (.int p5)]) (rest := [(.ref po)]) (lenOf pd__Ljava_lang_String_I_V rfl) rfl (by show 2 * 0 + _ ≤ _; exact Nat.le_of_eq rfl) (hb hby at_158) (fun _ _ => ⟨rfl, e126, Nat.le_of_ble_eq_true rfl, Nat.le_of_ble_eq_true rfl⟩)
  dsimp only [Pt.U, Pt.locs, Pt.cells, Pt.slots] at X131 l131 y131 z131 st131 hQ131
  subst l131 y131 z131
  obtain ⟨rfl, Nq131, K131⟩ := hQ131
  have N131 := Fr.app N124 Nq131
  have hs132 : ∀ sx_ ∈ ([po] : List Addr), Safe Z own_EL T118.vm h126 sx_ := (allS (Safe.exa hZ.alike A126 (by decide) (by decide)) all0)
  have R132 := R130.trans (CHr.keep K131 hs132 R130.1)
  obtain ⟨T133, h133, X133, e133, E133, A133, D133, -, st133⟩ := newO X131 hx hZ hown (hw _ (List.mem_of_getElem? (i := 49) rfl)) (hw _ (List.mem_of_getElem? (i := 50) rfl)) (hw _ (List.mem_of_getElem? (i := 51) rfl)) rfl (g := (mkF m 163 #[.val (.int p1), .val (.int p2), .val (.int p3), .val (.int p4), .val (.int p5), .val (.int p6), .val (.int i1), .val (.int i2), .val (.int la), .val (.int lb), .val (.int c0), .val (.int c1), .val (.int bb), .val (.int d0), .val (.int d1), .val (.ref x), .val (.ref y), .val (.ref kx), .val (.ref ky), .val (.ref po), .unset, .unset, .unset, .unset] [])) rfl (hb hby at_163) (by decide) (by decide)
  obtain ⟨tk, g133⟩ : ∃ z, z = T131.heap.size := ⟨_, rfl⟩
  rw [← g133] at A133 D133 st133
  have Z_134 := (Nat.le_trans (Nat.le_trans Z_127 K126.1) K131.1)
  have g_tk : n0 ≤ tk := Nat.le_trans Z_134 (Nat.le_of_eq g133.symm)
  have lt_x_135 := (Nat.lt_of_lt_of_le (Nat.lt_of_lt_of_le lt_x_128 K126.1) K131.1)
  have ne_x_tk : x ≠ tk := (Nat.ne_of_lt (Nat.lt_of_lt_of_le lt_x_135 (Nat.le_of_eq g133.symm)))
  have lt_t_x_136 := (Nat.lt_of_lt_of_le (Nat.lt_of_lt_of_le lt_t_x_129 K126.1) K131.1)
  have ne_t_x_tk : t_x ≠ tk := (Nat.ne_of_lt (Nat.lt_of_lt_of_le lt_t_x_136 (Nat.le_of_eq g133.symm)))
  have lt_y_137 := (Nat.lt_of_lt_of_le (Nat.lt_of_lt_of_le lt_y K126.1) K131.1)
  have ne_y_tk : y ≠ tk := (Nat.ne_of_lt (Nat.lt_of_lt_of_le lt_y_137 (Nat.le_of_eq g133.symm)))
  have lt_t_y_138 := (Nat.lt_of_lt_of_le (Nat.lt_of_lt_of_le lt_t_y K126.1) K131.1)
  have ne_t_y_tk : t_y ≠ tk := (Nat.ne_of_lt (Nat.lt_of_lt_of_le lt_t_y_138 (Nat.le_of_eq g133.symm)))
  have lt_po_139 := (Nat.lt_of_lt_of_le lt_po K131.1)
  have ne_po_tk : po ≠ tk := (Nat.ne_of_lt (Nat.lt_of_lt_of_le lt_po_139 (Nat.le_of_eq g133.symm)))
  have F_eKind_tk : Fld Z h133 tk "com/example/tramway/tramway/idl/Token" "eKind" "Lcom/example/tramway/tramway/idl/Token$Kind;" .null := D133 (Or.inr (hw _ (List.mem_of_getElem? (i := 57) rfl))) (ty := (.object "com/example/tramway/tramway/idl/Token$Kind")) (by decide)
  have F_sText_tk : Fld Z h133 tk "com/example/tramway/tramway/idl/Token" "sText" "Ljava/lang/String;" .null := D133 (Or.inr (hw _ (List.mem_of_getElem? (i := 59) rfl))) (ty := (.object "java/lang/String")) (by decide)
  have F_aPosition_tk : Fld Z h133 tk "com/example/tramway/tramway/idl/Token" "aPosition" "Lcom/example/tramway/tramway/idl/Position;" .null := D133 (Or.inr (hw _ (List.mem_of_getElem? (i := 61) rfl))) (ty := (.object "com/example/tramway/tramway/idl/Position")) (by decide)
  have F_bSpaced_tk : Fld Z h133 tk "com/example/tramway/tramway/idl/Token" "bSpaced" "Z" (.int (0 : Int32)) := D133 (Or.inr (hw _ (List.mem_of_getElem? (i := 63) rfl))) (ty := .boolean) (by decide)
  have K133 : Keep T131.heap h133 [] := (Keep.refl _ []).ext E133
  have hs140 : ∀ sx_ ∈ ([] : List Addr), Safe Z own_EL T118.vm T131.heap sx_ := all0
  have R140 := R132.trans (CHr.keep K133 hs140 R132.1)
  have lt_tk : tk < h133.size := A133.lt
  have go141 : ∀ t, Steps p.tables e below (T133.setTop (mkF m 177 #[.val (.int p1), .val (.int p2), .val (.int p3), .val (.int p4), .val (.int p5), .val (.int p6), .val (.int i1), .val (.int i2), .val (.int la), .val (.int lb), .val (.int c0), .val (.int c1), .val (.int bb), .val (.int d0), .val (.int d1), .val (.ref x), .val (.ref y), .val (.ref kx), .val (.ref ky), .val (.ref po), .unset, .unset, .unset, .unset] [(.int (p6 &&& (4 : Int32))), (.ref po), (.ref x), (.ref kx), (.ref tk), (.ref tk)])) t → Steps p.tables e below (s₁.setTop (entryFrame m #[(.int p1), (.int p2), (.int p3), (.int p4), (.int p5), (.int p6)] maxLocals)) t := fun t k => go125 t (by
      show Steps p.tables e below (T124.setTop (mkF m 148 #[.val (.int p1), .val (.int p2), .val (.int p3), .val (.int p4), .val (.int p5), .val (.int p6), .val (.int i1), .val (.int i2), .val (.int la), .val (.int lb), .val (.int c0), .val (.int c1), .val (.int bb), .val (.int d0), .val (.int d1), .val (.ref x), .val (.ref y), .val (.ref kx), .unset, .unset, .unset, .unset, .unset, .unset] [(.ref ky)])) _
      refine XS.astore X124.here hx rfl (hb hby at_148) rfl rfl (l' := #[.val (.int p1), .val (.int p2), .val (.int p3), .val (.int p4), .val (.int p5), .val (.int p6), .val (.int i1), .val (.int i2), .val (.int la), .val (.int lb), .val (.int c0), .val (.int c1), .val (.int bb), .val (.int d0), .val (.int d1), .val (.ref x), .val (.ref y), .val (.ref kx), .val (.ref ky), .unset, .unset, .unset, .unset, .unset]) rfl ?_
      show Steps p.tables e below (T124.setTop (mkF m 150 #[.val (.int p1), .val (.int p2), .val (.int p3), .val (.int p4), .val (.int p5), .val (.int p6), .val (.int i1), .val (.int i2), .val (.int la), .val (.int lb), .val (.int c0), .val (.int c1), .val (.int bb), .val (.int d0), .val (.int d1), .val (.ref x), .val (.ref y), .val (.ref kx), .val (.ref ky), .unset, .unset, .unset, .unset, .unset] [])) _
      refine st126 _ ?_
      show Steps p.tables e below (T126.setTop (mkF m 153 #[.val (.int p1), .val (.int p2), .val (.int p3), .val (.int p4), .val (.int p5), .val (.int p6), .val (.int i1), .val (.int i2), .val (.int la), .val (.int lb), .val (.int c0), .val (.int c1), .val (.int bb), .val (.int d0), .val (.int d1), .val (.ref x), .val (.ref y), .val (.ref kx), .val (.ref ky), .unset, .unset, .unset, .unset, .unset] [(.ref po)])) _
      refine XS.dup X126.here hx rfl (hb hby at_153) rfl rfl ?_
      show Steps p.tables e below (T126.setTop (mkF m 154 #[.val (.int p1), .val (.int p2), .val (.int p3), .val (.int p4), .val (.int p5), .val (.int p6), .val (.int i1), .val (.int i2), .val (.int la), .val (.int lb), .val (.int c0), .val (.int c1), .val (.int bb), .val (.int d0), .val (.int d1), .val (.ref x), .val (.ref y), .val (.ref kx), .val (.ref ky), .unset, .unset, .unset, .unset, .unset] [(.ref po), (.ref po)])) _
      refine XS.aload X126.here hx rfl (hb hby at_154) rfl rfl ?_
      show Steps p.tables e below (T126.setTop (mkF m 156 #[.val (.int p1), .val (.int p2), .val (.int p3), .val (.int p4), .val (.int p5), .val (.int p6), .val (.int i1), .val (.int i2), .val (.int la), .val (.int lb), .val (.int c0), .val (.int c1), .val (.int bb), .val (.int d0), .val (.int d1), .val (.ref x), .val (.ref y), .val (.ref kx), .val (.ref ky), .unset, .unset, .unset, .unset, .unset] [(.ref x), (.ref po), (.ref po)])) _
      refine XS.iload X126.here hx rfl (hb hby at_156) rfl ?_
      show Steps p.tables e below (T126.setTop (mkF m 158 #[.val (.int p1), .val (.int p2), .val (.int p3), .val (.int p4), .val (.int p5), .val (.int p6), .val (.int i1), .val (.int i2), .val (.int la), .val (.int lb), .val (.int c0), .val (.int c1), .val (.int bb), .val (.int d0), .val (.int d1), .val (.ref x), .val (.ref y), .val (.ref kx), .val (.ref ky), .unset, .unset, .unset, .unset, .unset] [(.int p5), (.ref x), (.ref po), (.ref po)])) _
      refine st131.trans ?_
      show Steps p.tables e below (T131.setTop (mkF m 161 #[.val (.int p1), .val (.int p2), .val (.int p3), .val (.int p4), .val (.int p5), .val (.int p6), .val (.int i1), .val (.int i2), .val (.int la), .val (.int lb), .val (.int c0), .val (.int c1), .val (.int bb), .val (.int d0), .val (.int d1), .val (.ref x), .val (.ref y), .val (.ref kx), .val (.ref ky), .unset, .unset, .unset, .unset, .unset] [(.ref po)])) _
      refine XS.astore X131.here hx rfl (hb hby at_161) rfl rfl (l' := #[.val (.int p1), .val (.int p2), .val (.int p3), .val (.int p4), .val (.int p5), .val (.int p6), .val (.int i1), .val (.int i2), .val (.int la), .val (.int lb), .val (.int c0), .val (.int c1), .val (.int bb), .val (.int d0), .val (.int d1), .val (.ref x), .val (.ref y), .val (.ref kx), .val (.ref ky), .val (.ref po), .unset, .unset, .unset, .unset]) rfl ?_
      show Steps p.tables e below (T131.setTop (mkF m 163 #[.val (.int p1), .val (.int p2), .val (.int p3), .val (.int p4), .val (.int p5), .val (.int p6), .val (.int i1), .val (.int i2), .val (.int la), .val (.int lb), .val (.int c0), .val (.int c1), .val (.int bb), .val (.int d0), .val (.int d1), .val (.ref x), .val (.ref y), .val (.ref kx), .val (.ref ky), .val (.ref po), .unset, .unset, .unset, .unset] [])) _
      refine st133 _ ?_
      show Steps p.tables e below (T133.setTop (mkF m 166 #[.val (.int p1), .val (.int p2), .val (.int p3), .val (.int p4), .val (.int p5), .val (.int p6), .val (.int i1), .val (.int i2), .val (.int la), .val (.int lb), .val (.int c0), .val (.int c1), .val (.int bb), .val (.int d0), .val (.int d1), .val (.ref x), .val (.ref y), .val (.ref kx), .val (.ref ky), .val (.ref po), .unset, .unset, .unset, .unset] [(.ref tk)])) _
      refine XS.dup X133.here hx rfl (hb hby at_166) rfl rfl ?_
      show Steps p.tables e below (T133.setTop (mkF m 167 #[.val (.int p1), .val (.int p2), .val (.int p3), .val (.int p4), .val (.int p5), .val (.int p6), .val (.int i1), .val (.int i2), .val (.int la), .val (.int lb), .val (.int c0), .val (.int c1), .val (.int bb), .val (.int d0), .val (.int d1), .val (.ref x), .val (.ref y), .val (.ref kx), .val (.ref ky), .val (.ref po), .unset, .unset, .unset, .unset] [(.ref tk), (.ref tk)])) _
      refine XS.aload X133.here hx rfl (hb hby at_167) rfl rfl ?_
      show Steps p.tables e below (T133.setTop (mkF m 169 #[.val (.int p1), .val (.int p2), .val (.int p3), .val (.int p4), .val (.int p5), .val (.int p6), .val (.int i1), .val (.int i2), .val (.int la), .val (.int lb), .val (.int c0), .val (.int c1), .val (.int bb), .val (.int d0), .val (.int d1), .val (.ref x), .val (.ref y), .val (.ref kx), .val (.ref ky), .val (.ref po), .unset, .unset, .unset, .unset] [(.ref kx), (.ref tk), (.ref tk)])) _
      refine XS.aload X133.here hx rfl (hb hby at_169) rfl rfl ?_
      show Steps p.tables e below (T133.setTop (mkF m 171 #[.val (.int p1), .val (.int p2), .val (.int p3), .val (.int p4), .val (.int p5), .val (.int p6), .val (.int i1), .val (.int i2), .val (.int la), .val (.int lb), .val (.int c0), .val (.int c1), .val (.int bb), .val (.int d0), .val (.int d1), .val (.ref x), .val (.ref y), .val (.ref kx), .val (.ref ky), .val (.ref po), .unset, .unset, .unset, .unset] [(.ref x), (.ref kx), (.ref tk), (.ref tk)])) _
      refine XS.aload X133.here hx rfl (hb hby at_171) rfl rfl ?_
      show Steps p.tables e below (T133.setTop (mkF m 173 #[.val (.int p1), .val (.int p2), .val (.int p3), .val (.int p4), .val (.int p5), .val (.int p6), .val (.int i1), .val (.int i2), .val (.int la), .val (.int lb), .val (.int c0), .val (.int c1), .val (.int bb), .val (.int d0), .val (.int d1), .val (.ref x), .val (.ref y), .val (.ref kx), .val (.ref ky), .val (.ref po), .unset, .unset, .unset, .unset] [(.ref po), (.ref x), (.ref kx), (.ref tk), (.ref tk)])) _
      refine XS.iload X133.here hx rfl (hb hby at_173) rfl ?_
      show Steps p.tables e below (T133.setTop (mkF m 175 #[.val (.int p1), .val (.int p2), .val (.int p3), .val (.int p4), .val (.int p5), .val (.int p6), .val (.int i1), .val (.int i2), .val (.int la), .val (.int lb), .val (.int c0), .val (.int c1), .val (.int bb), .val (.int d0), .val (.int d1), .val (.ref x), .val (.ref y), .val (.ref kx), .val (.ref ky), .val (.ref po), .unset, .unset, .unset, .unset] [(.int p6), (.ref po), (.ref x), (.ref kx), (.ref tk), (.ref tk)])) _
      refine XS.iconst X133.here hx rfl (hb hby at_175) ?_
      show Steps p.tables e below (T133.setTop (mkF m 176 #[.val (.int p1), .val (.int p2), .val (.int p3), .val (.int p4), .val (.int p5), .val (.int p6), .val (.int i1), .val (.int i2), .val (.int la), .val (.int lb), .val (.int c0), .val (.int c1), .val (.int bb), .val (.int d0), .val (.int d1), .val (.ref x), .val (.ref y), .val (.ref kx), .val (.ref ky), .val (.ref po), .unset, .unset, .unset, .unset] [(.int (4 : Int32)), (.int p6), (.ref po), (.ref x), (.ref kx), (.ref tk), (.ref tk)])) _
      refine XS.iand X133.here hx rfl (hb hby at_176) rfl ?_
      exact k)
  obtain ⟨sp, h_sp, go142⟩ : ∃ sp : Int32, (True) ∧ ∀ t, Steps p.tables e below (T133.setTop (mkF m 185 #[.val (.int p1), .val (.int p2), .val (.int p3), .val (.int p4), .val (.int p5), .val (.int p6), .val (.int i1), .val (.int i2), .val (.int la), .val (.int lb), .val (.int c0), .val (.int c1), .val (.int bb), .val (.int d0), .val (.int d1), .val (.ref x), .val (.ref y), .val (.ref kx), .val (.ref ky), .val (.ref po), .unset, .unset, .unset, .unset] [(.int sp), (.ref po), (.ref x), (.ref kx), (.ref tk), (.ref tk)])) t → Steps p.tables e below (s₁.setTop (entryFrame m #[(.int p1), (.int p2), (.int p3), (.int p4), (.int p5), (.int p6)] maxLocals)) t := by
    by_cases hq : (p6 &&& (4 : Int32)) = 0
    · skip
      refine ⟨(0 : Int32), trivial, fun t k => go141 t ?_⟩
      show Steps p.tables e below (T133.setTop (mkF m 177 #[.val (.int p1), .val (.int p2), .val (.int p3), .val (.int p4), .val (.int p5), .val (.int p6), .val (.int i1), .val (.int i2), .val (.int la), .val (.int lb), .val (.int c0), .val (.int c1), .val (.int bb), .val (.int d0), .val (.int d1), .val (.ref x), .val (.ref y), .val (.ref kx), .val (.ref ky), .val (.ref po), .unset, .unset, .unset, .unset] [(.int (p6 &&& (4 : Int32))), (.ref po), (.ref x), (.ref kx), (.ref tk), (.ref tk)])) _
      refine XS.ifYes X133.here hx rfl (pc0 := 177) (pc' := 184) rfl (hb hby at_177) rfl ((if0 _ _).trans (teq (hq : (p6 &&& (4 : Int32)) = (0 : Int32))).1) (by decide) (by decide) ?_
      show Steps p.tables e below (T133.setTop (mkF m 184 #[.val (.int p1), .val (.int p2), .val (.int p3), .val (.int p4), .val (.int p5), .val (.int p6), .val (.int i1), .val (.int i2), .val (.int la), .val (.int lb), .val (.int c0), .val (.int c1), .val (.int bb), .val (.int d0), .val (.int d1), .val (.ref x), .val (.ref y), .val (.ref kx), .val (.ref ky), .val (.ref po), .unset, .unset, .unset, .unset] [(.ref po), (.ref x), (.ref kx), (.ref tk), (.ref tk)])) _
      refine XS.iconst X133.here hx rfl (hb hby at_184) ?_
      show Steps p.tables e below (T133.setTop (mkF m 185 #[.val (.int p1), .val (.int p2), .val (.int p3), .val (.int p4), .val (.int p5), .val (.int p6), .val (.int i1), .val (.int i2), .val (.int la), .val (.int lb), .val (.int c0), .val (.int c1), .val (.int bb), .val (.int d0), .val (.int d1), .val (.ref x), .val (.ref y), .val (.ref kx), .val (.ref ky), .val (.ref po), .unset, .unset, .unset, .unset] [(.int (0 : Int32)), (.ref po), (.ref x), (.ref kx), (.ref tk), (.ref tk)])) _
      exact k
    · skip
      refine ⟨(1 : Int32), trivial, fun t k => go141 t ?_⟩
      show Steps p.tables e below (T133.setTop (mkF m 177 #[.val (.int p1), .val (.int p2), .val (.int p3), .val (.int p4), .val (.int p5), .val (.int p6), .val (.int i1), .val (.int i2), .val (.int la), .val (.int lb), .val (.int c0), .val (.int c1), .val (.int bb), .val (.int d0), .val (.int d1), .val (.ref x), .val (.ref y), .val (.ref kx), .val (.ref ky), .val (.ref po), .unset, .unset, .unset, .unset] [(.int (p6 &&& (4 : Int32))), (.ref po), (.ref x), (.ref kx), (.ref tk), (.ref tk)])) _
      refine XS.ifNo X133.here hx rfl (hb hby at_177) rfl ((if0 _ _).trans (feq (hq : ¬ ((p6 &&& (4 : Int32)) = (0 : Int32)))).1) ?_
      show Steps p.tables e below (T133.setTop (mkF m 180 #[.val (.int p1), .val (.int p2), .val (.int p3), .val (.int p4), .val (.int p5), .val (.int p6), .val (.int i1), .val (.int i2), .val (.int la), .val (.int lb), .val (.int c0), .val (.int c1), .val (.int bb), .val (.int d0), .val (.int d1), .val (.ref x), .val (.ref y), .val (.ref kx), .val (.ref ky), .val (.ref po), .unset, .unset, .unset, .unset] [(.ref po), (.ref x), (.ref kx), (.ref tk), (.ref tk)])) _
      refine XS.iconst X133.here hx rfl (hb hby at_180) ?_
      show Steps p.tables e below (T133.setTop (mkF m 181 #[.val (.int p1), .val (.int p2), .val (.int p3), .val (.int p4), .val (.int p5), .val (.int p6), .val (.int i1), .val (.int i2), .val (.int la), .val (.int lb), .val (.int c0), .val (.int c1), .val (.int bb), .val (.int d0), .val (.int d1), .val (.ref x), .val (.ref y), .val (.ref kx), .val (.ref ky), .val (.ref po), .unset, .unset, .unset, .unset] [(.int (1 : Int32)), (.ref po), (.ref x), (.ref kx), (.ref tk), (.ref tk)])) _
      refine XS.goto X133.here hx rfl (pc0 := 181) (pc' := 185) rfl (hb hby at_181) (by decide) (by decide) ?_
      show Steps p.tables e below (T133.setTop (mkF m 185 #[.val (.int p1), .val (.int p2), .val (.int p3), .val (.int p4), .val (.int p5), .val (.int p6), .val (.int i1), .val (.int i2), .val (.int la), .val (.int lb), .val (.int c0), .val (.int c1), .val (.int bb), .val (.int d0), .val (.int d1), .val (.ref x), .val (.ref y), .val (.ref kx), .val (.ref ky), .val (.ref po), .unset, .unset, .unset, .unset] [(.int (1 : Int32)), (.ref po), (.ref x), (.ref kx), (.ref tk), (.ref tk)])) _
      exact k
  obtain ⟨_, _, ⟨T143, L143, kk143, nn143⟩, -, X143, ⟨Lc143, hQ143, l143, y143, z143⟩, st143⟩ := X133.specialBack hx (y := (⟨"com/example/tramway/tramway/idl/Token", "<init>", "(Lcom/example/tramway/tramway/idl/Token$Kind;Ljava/lang/String;Lcom/example/tramway/tramway/idl/Position;Z)V"⟩ : MethodName)) rfl hown (mvT hZ (hw _ (List.mem_of_getElem? (i := 52) rfl))) (mvT hZ (hw _ (List.mem_of_getElem? (i := 53) rfl))) (mvT hZ (hw _ (List.mem_of_getElem? (i := 54) rfl))) (by decide) (backOf (W := 1) (rmT l Z a0 hw [] tk kx x po sp _ _ _ _ h133 n0 g_tk A133 F_eKind_tk F_sText_tk F_aPosition_tk F_bSpaced_tk) hZ (hw _ (List.mem_of_getElem? (i := 54) rfl)) (hw _ (List.mem_of_getElem? (i := 51) rfl)) (by decide) (by decide)) (g := (mkF m 185 #[.val (.int p1), .val (.int p2), .val (.int p3), .val (.int p4), .val (.int p5), .val (.int p6), .val (.int i1), .val (.int i2), .val (.int la), .val (.int lb), .val (.int c0), .val (.int c1), .val (.int bb), .val (.int d0), .val (.int d1), .val (.ref x), .val (.ref y), .val (.ref kx), .val (.ref ky), .val (.ref po), .unset, .unset, .unset, .unset] [(.int sp), (.ref po), (.ref x), (.ref kx), (.ref tk), (.ref tk)])) rfl (by rw [hml]; rfl) (Steps.refl _) (a := tk) (argsL := [(.ref kx), (.ref x), (.ref po), (.int sp)]) (rest := [(.ref tk)]) (lenOf pd__Lcom_example_tramway_tramway_idl_Token_Kind_Ljava_lang_String_Lcom_example_tramway_tramway_idl_Position_Z_V rfl) rfl (by show 2 * 0 + _ ≤ _; exact Nat.le_of_eq rfl) (hb hby at_185) (fun _ _ => ⟨rfl, e133, Nat.le_of_ble_eq_true rfl, Nat.le_of_ble_eq_true rfl⟩)
  dsimp only [Pt.U, Pt.locs, Pt.cells, Pt.slots] at X143 l143 y143 z143 st143 hQ143
  subst l143 y143 z143
  obtain ⟨rfl, Nq143, K143, Et143, Fk143, Fs143⟩ := hQ143
  have N143 := Fr.app N131 Nq143
  have hs144 : ∀ sx_ ∈ ([tk] : List Addr), Safe Z own_EL T118.vm h133 sx_ := (allS (Safe.exa hZ.alike A133 (by decide) (by decide)) all0)
  have R144 := R140.trans (CHr.keep K143 hs144 R140.1)
  have E_x_145 := (((((E_x.keep K118).keep K126).keep K131).keep K133).keep K143)
  have F_value_x_146 := (((((F_value_x.keep K118 nin0).keep K126 nin0).keep K131 (ninS ne_x_po nin0)).keep K133 nin0).keep K143 (ninS ne_x_tk nin0))
  have F_coder_x_147 := (((((F_coder_x.keep K118 nin0).keep K126 nin0).keep K131 (ninS ne_x_po nin0)).keep K133 nin0).keep K143 (ninS ne_x_tk nin0))
  have V_t_x_148 := (((((V_t_x.keep K118 nin0).keep K126 nin0).keep K131 (ninS ne_t_x_po nin0)).keep K133 nin0).keep K143 (ninS ne_t_x_tk nin0))
  have E_y_149 := ((((E_y.keep K126).keep K131).keep K133).keep K143)
  have F_value_y_150 := ((((F_value_y.keep K126 nin0).keep K131 (ninS ne_y_po nin0)).keep K133 nin0).keep K143 (ninS ne_y_tk nin0))
  have F_coder_y_151 := ((((F_coder_y.keep K126 nin0).keep K131 (ninS ne_y_po nin0)).keep K133 nin0).keep K143 (ninS ne_y_tk nin0))
  have V_t_y_152 := ((((V_t_y.keep K126 nin0).keep K131 (ninS ne_t_y_po nin0)).keep K133 nin0).keep K143 (ninS ne_t_y_tk nin0))
  have O_153 := ((((O_121.keep K126 all0).keep K131 (allS g_po all0)).keep K133 all0).keep K143 (allS g_tk all0))
  obtain ⟨r, hr1, rt⟩ := rmI l Z a0 hw [] tk kx ky x t_x y t_y k_x k_y (own_cl la c0 c1) (own_cl lb d0 d1) G1 T143.heap n0 Fk143 Fs143 E_x_145 F_value_x_146 F_coder_x_147 V_t_x_148 (own_cl_rng ⟨rc0.1, rc0.2.1⟩ ⟨rc1.1, rc1.2.1⟩) (own_cl_len _ _ _) E_y_149 F_value_y_150 F_coder_y_151 V_t_y_152 (own_cl_rng ⟨rd0.1, rd0.2.1⟩ ⟨rd1.1, rd1.2.1⟩) (own_cl_len _ _ _) (O2.ext O_153.2) P5
  obtain ⟨cq154, kq154, q154a, q154b, q154c⟩ := isOf hZ rfl Et143
  obtain ⟨_, _, ⟨T154, L154, kk154, nn154⟩, -, X154, ⟨Lc154, hQ154, l154, y154, z154⟩, st154⟩ := X143.virtualBack hx (y := (⟨"com/example/tramway/tramway/idl/Token", "is", "(Lcom/example/tramway/tramway/idl/Token$Kind;Ljava/lang/String;)Z"⟩ : MethodName)) (z := (⟨"com/example/tramway/tramway/idl/Token", "is", "(Lcom/example/tramway/tramway/idl/Token$Kind;Ljava/lang/String;)Z"⟩ : MethodName)) hown (mvT hZ (hw _ (List.mem_of_getElem? (i := 64) rfl))) (mvT hZ (hw _ (List.mem_of_getElem? (i := 65) rfl))) (notFace_of_selects (args := #[]) (mvT hZ (hw _ (List.mem_of_getElem? (i := 67) rfl)))) (mvT hZ (hw _ (List.mem_of_getElem? (i := 67) rfl))) (mvT hZ (hw _ (List.mem_of_getElem? (i := 66) rfl))) (by decide) (backOf (W := 0) (rt) hZ (hw _ (List.mem_of_getElem? (i := 68) rfl)) (hw _ (List.mem_of_getElem? (i := 51) rfl)) (by decide) (by decide)) q154a q154c (g := (mkF m 196 #[.val (.int p1), .val (.int p2), .val (.int p3), .val (.int p4), .val (.int p5), .val (.int p6), .val (.int i1), .val (.int i2), .val (.int la), .val (.int lb), .val (.int c0), .val (.int c1), .val (.int bb), .val (.int d0), .val (.int d1), .val (.ref x), .val (.ref y), .val (.ref kx), .val (.ref ky), .val (.ref po), .val (.ref tk), .unset, .unset, .unset] [(.ref y), (.ref ky), (.ref tk)])) rfl (by rw [hml]; rfl) (Steps.refl _) (argsL := [(.ref ky), (.ref y)]) (rest := []) (lenOf pd__Lcom_example_tramway_tramway_idl_Token_Kind_Ljava_lang_String__Z rfl) rfl (by show 2 * 0 + _ ≤ _; exact Nat.le_of_eq rfl) (hb hby at_196) (fun _ _ => ⟨rfl, rfl, Nat.le_of_ble_eq_true rfl, Nat.le_of_ble_eq_true rfl⟩)
  dsimp only [Pt.U, Pt.locs, Pt.cells, Pt.slots] at X154 l154 y154 z154 st154 hQ154
  subst l154 y154 z154
  obtain ⟨rfl, Nq154, e154⟩ := hQ154
  have N154 := Fr.app N143 Nq154
  have go155 : ∀ t, Steps p.tables e below (T154.setTop (mkF m 205 #[.val (.int p1), .val (.int p2), .val (.int p3), .val (.int p4), .val (.int p5), .val (.int p6), .val (.int i1), .val (.int i2), .val (.int la), .val (.int lb), .val (.int c0), .val (.int c1), .val (.int bb), .val (.int d0), .val (.int d1), .val (.ref x), .val (.ref y), .val (.ref kx), .val (.ref ky), .val (.ref po), .val (.ref tk), .val (.int r), .unset, .unset] [(.int i2), (.int i1)])) t → Steps p.tables e below (s₁.setTop (entryFrame m #[(.int p1), (.int p2), (.int p3), (.int p4), (.int p5), (.int p6)] maxLocals)) t := fun t k => go142 t (by
      show Steps p.tables e below (T133.setTop (mkF m 185 #[.val (.int p1), .val (.int p2), .val (.int p3), .val (.int p4), .val (.int p5), .val (.int p6), .val (.int i1), .val (.int i2), .val (.int la), .val (.int lb), .val (.int c0), .val (.int c1), .val (.int bb), .val (.int d0), .val (.int d1), .val (.ref x), .val (.ref y), .val (.ref kx), .val (.ref ky), .val (.ref po), .unset, .unset, .unset, .unset] [(.int sp), (.ref po), (.ref x), (.ref kx), (.ref tk), (.ref tk)])) _
      refine st143.trans ?_
      show Steps p.tables e below (T143.setTop (mkF m 188 #[.val (.int p1), .val (.int p2), .val (.int p3), .val (.int p4), .val (.int p5), .val (.int p6), .val (.int i1), .val (.int i2), .val (.int la), .val (.int lb), .val (.int c0), .val (.int c1), .val (.int bb), .val (.int d0), .val (.int d1), .val (.ref x), .val (.ref y), .val (.ref kx), .val (.ref ky), .val (.ref po), .unset, .unset, .unset, .unset] [(.ref tk)])) _
      refine XS.astore X143.here hx rfl (hb hby at_188) rfl rfl (l' := #[.val (.int p1), .val (.int p2), .val (.int p3), .val (.int p4), .val (.int p5), .val (.int p6), .val (.int i1), .val (.int i2), .val (.int la), .val (.int lb), .val (.int c0), .val (.int c1), .val (.int bb), .val (.int d0), .val (.int d1), .val (.ref x), .val (.ref y), .val (.ref kx), .val (.ref ky), .val (.ref po), .val (.ref tk), .unset, .unset, .unset]) rfl ?_
      show Steps p.tables e below (T143.setTop (mkF m 190 #[.val (.int p1), .val (.int p2), .val (.int p3), .val (.int p4), .val (.int p5), .val (.int p6), .val (.int i1), .val (.int i2), .val (.int la), .val (.int lb), .val (.int c0), .val (.int c1), .val (.int bb), .val (.int d0), .val (.int d1), .val (.ref x), .val (.ref y), .val (.ref kx), .val (.ref ky), .val (.ref po), .val (.ref tk), .unset, .unset, .unset] [])) _
      refine XS.aload X143.here hx rfl (hb hby at_190) rfl rfl ?_
      show Steps p.tables e below (T143.setTop (mkF m 192 #[.val (.int p1), .val (.int p2), .val (.int p3), .val (.int p4), .val (.int p5), .val (.int p6), .val (.int i1), .val (.int i2), .val (.int la), .val (.int lb), .val (.int c0), .val (.int c1), .val (.int bb), .val (.int d0), .val (.int d1), .val (.ref x), .val (.ref y), .val (.ref kx), .val (.ref ky), .val (.ref po), .val (.ref tk), .unset, .unset, .unset] [(.ref tk)])) _
      refine XS.aload X143.here hx rfl (hb hby at_192) rfl rfl ?_
      show Steps p.tables e below (T143.setTop (mkF m 194 #[.val (.int p1), .val (.int p2), .val (.int p3), .val (.int p4), .val (.int p5), .val (.int p6), .val (.int i1), .val (.int i2), .val (.int la), .val (.int lb), .val (.int c0), .val (.int c1), .val (.int bb), .val (.int d0), .val (.int d1), .val (.ref x), .val (.ref y), .val (.ref kx), .val (.ref ky), .val (.ref po), .val (.ref tk), .unset, .unset, .unset] [(.ref ky), (.ref tk)])) _
      refine XS.aload X143.here hx rfl (hb hby at_194) rfl rfl ?_
      show Steps p.tables e below (T143.setTop (mkF m 196 #[.val (.int p1), .val (.int p2), .val (.int p3), .val (.int p4), .val (.int p5), .val (.int p6), .val (.int i1), .val (.int i2), .val (.int la), .val (.int lb), .val (.int c0), .val (.int c1), .val (.int bb), .val (.int d0), .val (.int d1), .val (.ref x), .val (.ref y), .val (.ref kx), .val (.ref ky), .val (.ref po), .val (.ref tk), .unset, .unset, .unset] [(.ref y), (.ref ky), (.ref tk)])) _
      refine st154.trans ?_
      show Steps p.tables e below (T154.setTop (mkF m 199 #[.val (.int p1), .val (.int p2), .val (.int p3), .val (.int p4), .val (.int p5), .val (.int p6), .val (.int i1), .val (.int i2), .val (.int la), .val (.int lb), .val (.int c0), .val (.int c1), .val (.int bb), .val (.int d0), .val (.int d1), .val (.ref x), .val (.ref y), .val (.ref kx), .val (.ref ky), .val (.ref po), .val (.ref tk), .unset, .unset, .unset] [(.int r)])) _
      refine XS.istore X154.here hx rfl (hb hby at_199) rfl (l' := #[.val (.int p1), .val (.int p2), .val (.int p3), .val (.int p4), .val (.int p5), .val (.int p6), .val (.int i1), .val (.int i2), .val (.int la), .val (.int lb), .val (.int c0), .val (.int c1), .val (.int bb), .val (.int d0), .val (.int d1), .val (.ref x), .val (.ref y), .val (.ref kx), .val (.ref ky), .val (.ref po), .val (.ref tk), .val (.int r), .unset, .unset]) rfl ?_
      show Steps p.tables e below (T154.setTop (mkF m 201 #[.val (.int p1), .val (.int p2), .val (.int p3), .val (.int p4), .val (.int p5), .val (.int p6), .val (.int i1), .val (.int i2), .val (.int la), .val (.int lb), .val (.int c0), .val (.int c1), .val (.int bb), .val (.int d0), .val (.int d1), .val (.ref x), .val (.ref y), .val (.ref kx), .val (.ref ky), .val (.ref po), .val (.ref tk), .val (.int r), .unset, .unset] [])) _
      refine XS.iload X154.here hx rfl (hb hby at_201) rfl ?_
      show Steps p.tables e below (T154.setTop (mkF m 203 #[.val (.int p1), .val (.int p2), .val (.int p3), .val (.int p4), .val (.int p5), .val (.int p6), .val (.int i1), .val (.int i2), .val (.int la), .val (.int lb), .val (.int c0), .val (.int c1), .val (.int bb), .val (.int d0), .val (.int d1), .val (.ref x), .val (.ref y), .val (.ref kx), .val (.ref ky), .val (.ref po), .val (.ref tk), .val (.int r), .unset, .unset] [(.int i1)])) _
      refine XS.iload X154.here hx rfl (hb hby at_203) rfl ?_
      exact k)
  obtain ⟨sk, h_sk, go156⟩ : ∃ sk : Int32, ((i1 = i2 ∧ sk = 1) ∨ (¬ (i1 = i2) ∧ sk = 0)) ∧ ∀ t, Steps p.tables e below (T154.setTop (mkF m 213 #[.val (.int p1), .val (.int p2), .val (.int p3), .val (.int p4), .val (.int p5), .val (.int p6), .val (.int i1), .val (.int i2), .val (.int la), .val (.int lb), .val (.int c0), .val (.int c1), .val (.int bb), .val (.int d0), .val (.int d1), .val (.ref x), .val (.ref y), .val (.ref kx), .val (.ref ky), .val (.ref po), .val (.ref tk), .val (.int r), .unset, .unset] [(.int sk)])) t → Steps p.tables e below (s₁.setTop (entryFrame m #[(.int p1), (.int p2), (.int p3), (.int p4), (.int p5), (.int p6)] maxLocals)) t := by
    by_cases hq : i1 = i2
    · skip
      refine ⟨(1 : Int32), Or.inl ⟨hq, rfl⟩, fun t k => go155 t ?_⟩
      show Steps p.tables e below (T154.setTop (mkF m 205 #[.val (.int p1), .val (.int p2), .val (.int p3), .val (.int p4), .val (.int p5), .val (.int p6), .val (.int i1), .val (.int i2), .val (.int la), .val (.int lb), .val (.int c0), .val (.int c1), .val (.int bb), .val (.int d0), .val (.int d1), .val (.ref x), .val (.ref y), .val (.ref kx), .val (.ref ky), .val (.ref po), .val (.ref tk), .val (.int r), .unset, .unset] [(.int i2), (.int i1)])) _
      refine XS.icmpNo X154.here hx rfl (hb hby at_205) rfl (teq (hq : i1 = i2)).2 ?_
      show Steps p.tables e below (T154.setTop (mkF m 208 #[.val (.int p1), .val (.int p2), .val (.int p3), .val (.int p4), .val (.int p5), .val (.int p6), .val (.int i1), .val (.int i2), .val (.int la), .val (.int lb), .val (.int c0), .val (.int c1), .val (.int bb), .val (.int d0), .val (.int d1), .val (.ref x), .val (.ref y), .val (.ref kx), .val (.ref ky), .val (.ref po), .val (.ref tk), .val (.int r), .unset, .unset] [])) _
      refine XS.iconst X154.here hx rfl (hb hby at_208) ?_
      show Steps p.tables e below (T154.setTop (mkF m 209 #[.val (.int p1), .val (.int p2), .val (.int p3), .val (.int p4), .val (.int p5), .val (.int p6), .val (.int i1), .val (.int i2), .val (.int la), .val (.int lb), .val (.int c0), .val (.int c1), .val (.int bb), .val (.int d0), .val (.int d1), .val (.ref x), .val (.ref y), .val (.ref kx), .val (.ref ky), .val (.ref po), .val (.ref tk), .val (.int r), .unset, .unset] [(.int (1 : Int32))])) _
      refine XS.goto X154.here hx rfl (pc0 := 209) (pc' := 213) rfl (hb hby at_209) (by decide) (by decide) ?_
      show Steps p.tables e below (T154.setTop (mkF m 213 #[.val (.int p1), .val (.int p2), .val (.int p3), .val (.int p4), .val (.int p5), .val (.int p6), .val (.int i1), .val (.int i2), .val (.int la), .val (.int lb), .val (.int c0), .val (.int c1), .val (.int bb), .val (.int d0), .val (.int d1), .val (.ref x), .val (.ref y), .val (.ref kx), .val (.ref ky), .val (.ref po), .val (.ref tk), .val (.int r), .unset, .unset] [(.int (1 : Int32))])) _
      exact k
    · skip
      refine ⟨(0 : Int32), Or.inr ⟨hq, rfl⟩, fun t k => go155 t ?_⟩
      show Steps p.tables e below (T154.setTop (mkF m 205 #[.val (.int p1), .val (.int p2), .val (.int p3), .val (.int p4), .val (.int p5), .val (.int p6), .val (.int i1), .val (.int i2), .val (.int la), .val (.int lb), .val (.int c0), .val (.int c1), .val (.int bb), .val (.int d0), .val (.int d1), .val (.ref x), .val (.ref y), .val (.ref kx), .val (.ref ky), .val (.ref po), .val (.ref tk), .val (.int r), .unset, .unset] [(.int i2), (.int i1)])) _
      refine XS.icmpYes X154.here hx rfl (pc0 := 205) (pc' := 212) rfl (hb hby at_205) rfl (feq (hq : ¬ (i1 = i2))).2 (by decide) (by decide) ?_
      show Steps p.tables e below (T154.setTop (mkF m 212 #[.val (.int p1), .val (.int p2), .val (.int p3), .val (.int p4), .val (.int p5), .val (.int p6), .val (.int i1), .val (.int i2), .val (.int la), .val (.int lb), .val (.int c0), .val (.int c1), .val (.int bb), .val (.int d0), .val (.int d1), .val (.ref x), .val (.ref y), .val (.ref kx), .val (.ref ky), .val (.ref po), .val (.ref tk), .val (.int r), .unset, .unset] [])) _
      refine XS.iconst X154.here hx rfl (hb hby at_212) ?_
      show Steps p.tables e below (T154.setTop (mkF m 213 #[.val (.int p1), .val (.int p2), .val (.int p3), .val (.int p4), .val (.int p5), .val (.int p6), .val (.int i1), .val (.int i2), .val (.int la), .val (.int lb), .val (.int c0), .val (.int c1), .val (.int bb), .val (.int d0), .val (.int d1), .val (.ref x), .val (.ref y), .val (.ref kx), .val (.ref ky), .val (.ref po), .val (.ref tk), .val (.int r), .unset, .unset] [(.int (0 : Int32))])) _
      exact k
  have go157 : ∀ t, Steps p.tables e below (T154.setTop (mkF m 219 #[.val (.int p1), .val (.int p2), .val (.int p3), .val (.int p4), .val (.int p5), .val (.int p6), .val (.int i1), .val (.int i2), .val (.int la), .val (.int lb), .val (.int c0), .val (.int c1), .val (.int bb), .val (.int d0), .val (.int d1), .val (.ref x), .val (.ref y), .val (.ref kx), .val (.ref ky), .val (.ref po), .val (.ref tk), .val (.int r), .val (.int sk), .unset] [(.int lb), (.int la)])) t → Steps p.tables e below (s₁.setTop (entryFrame m #[(.int p1), (.int p2), (.int p3), (.int p4), (.int p5), (.int p6)] maxLocals)) t := fun t k => go156 t (by
      show Steps p.tables e below (T154.setTop (mkF m 213 #[.val (.int p1), .val (.int p2), .val (.int p3), .val (.int p4), .val (.int p5), .val (.int p6), .val (.int i1), .val (.int i2), .val (.int la), .val (.int lb), .val (.int c0), .val (.int c1), .val (.int bb), .val (.int d0), .val (.int d1), .val (.ref x), .val (.ref y), .val (.ref kx), .val (.ref ky), .val (.ref po), .val (.ref tk), .val (.int r), .unset, .unset] [(.int sk)])) _
      refine XS.istore X154.here hx rfl (hb hby at_213) rfl (l' := #[.val (.int p1), .val (.int p2), .val (.int p3), .val (.int p4), .val (.int p5), .val (.int p6), .val (.int i1), .val (.int i2), .val (.int la), .val (.int lb), .val (.int c0), .val (.int c1), .val (.int bb), .val (.int d0), .val (.int d1), .val (.ref x), .val (.ref y), .val (.ref kx), .val (.ref ky), .val (.ref po), .val (.ref tk), .val (.int r), .val (.int sk), .unset]) rfl ?_
      show Steps p.tables e below (T154.setTop (mkF m 215 #[.val (.int p1), .val (.int p2), .val (.int p3), .val (.int p4), .val (.int p5), .val (.int p6), .val (.int i1), .val (.int i2), .val (.int la), .val (.int lb), .val (.int c0), .val (.int c1), .val (.int bb), .val (.int d0), .val (.int d1), .val (.ref x), .val (.ref y), .val (.ref kx), .val (.ref ky), .val (.ref po), .val (.ref tk), .val (.int r), .val (.int sk), .unset] [])) _
      refine XS.iload X154.here hx rfl (hb hby at_215) rfl ?_
      show Steps p.tables e below (T154.setTop (mkF m 217 #[.val (.int p1), .val (.int p2), .val (.int p3), .val (.int p4), .val (.int p5), .val (.int p6), .val (.int i1), .val (.int i2), .val (.int la), .val (.int lb), .val (.int c0), .val (.int c1), .val (.int bb), .val (.int d0), .val (.int d1), .val (.ref x), .val (.ref y), .val (.ref kx), .val (.ref ky), .val (.ref po), .val (.ref tk), .val (.int r), .val (.int sk), .unset] [(.int la)])) _
      refine XS.iload X154.here hx rfl (hb hby at_217) rfl ?_
      exact k)
  obtain ⟨st, h_st, go158⟩ : ∃ st : Int32, (((la = lb ∧ (la < 1 ∨ c0 = d0) ∧ (la < 2 ∨ c1 = d1)) ∧ st = 1) ∨ (¬ (la = lb ∧ (la < 1 ∨ c0 = d0) ∧ (la < 2 ∨ c1 = d1)) ∧ st = 0)) ∧ ∀ t, Steps p.tables e below (T154.setTop (mkF m 253 #[.val (.int p1), .val (.int p2), .val (.int p3), .val (.int p4), .val (.int p5), .val (.int p6), .val (.int i1), .val (.int i2), .val (.int la), .val (.int lb), .val (.int c0), .val (.int c1), .val (.int bb), .val (.int d0), .val (.int d1), .val (.ref x), .val (.ref y), .val (.ref kx), .val (.ref ky), .val (.ref po), .val (.ref tk), .val (.int r), .val (.int sk), .unset] [(.int st)])) t → Steps p.tables e below (s₁.setTop (entryFrame m #[(.int p1), (.int p2), (.int p3), (.int p4), (.int p5), (.int p6)] maxLocals)) t := by
    rcases own_eight (A := la = lb) (B := la < 1) (C := c0 = d0) (D := la < 2) (E := c1 = d1) with h1 | ⟨h1, h2, h3⟩ | ⟨h1, h2, h4⟩ | ⟨h1, h2, h4, h5⟩ | ⟨h1, h2, h4, h5⟩ | ⟨h1, h2, h3, h4⟩ | ⟨h1, h2, h3, h4, h5⟩ | ⟨h1, h2, h3, h4, h5⟩
    · skip
      refine ⟨(0 : Int32), Or.inr ⟨fun q => h1 q.1, rfl⟩, fun t k => go157 t ?_⟩
      show Steps p.tables e below (T154.setTop (mkF m 219 #[.val (.int p1), .val (.int p2), .val (.int p3), .val (.int p4), .val (.int p5), .val (.int p6), .val (.int i1), .val (.int i2), .val (.int la), .val (.int lb), .val (.int c0), .val (.int c1), .val (.int bb), .val (.int d0), .val (.int d1), .val (.ref x), .val (.ref y), .val (.ref kx), .val (.ref ky), .val (.ref po), .val (.ref tk), .val (.int r), .val (.int sk), .unset] [(.int lb), (.int la)])) _
      refine XS.icmpYes X154.here hx rfl (pc0 := 219) (pc' := 252) rfl (hb hby at_219) rfl (feq (h1 : ¬ (la = lb))).2 (by decide) (by decide) ?_
      show Steps p.tables e below (T154.setTop (mkF m 252 #[.val (.int p1), .val (.int p2), .val (.int p3), .val (.int p4), .val (.int p5), .val (.int p6), .val (.int i1), .val (.int i2), .val (.int la), .val (.int lb), .val (.int c0), .val (.int c1), .val (.int bb), .val (.int d0), .val (.int d1), .val (.ref x), .val (.ref y), .val (.ref kx), .val (.ref ky), .val (.ref po), .val (.ref tk), .val (.int r), .val (.int sk), .unset] [])) _
      refine XS.iconst X154.here hx rfl (hb hby at_252) ?_
      show Steps p.tables e below (T154.setTop (mkF m 253 #[.val (.int p1), .val (.int p2), .val (.int p3), .val (.int p4), .val (.int p5), .val (.int p6), .val (.int i1), .val (.int i2), .val (.int la), .val (.int lb), .val (.int c0), .val (.int c1), .val (.int bb), .val (.int d0), .val (.int d1), .val (.ref x), .val (.ref y), .val (.ref kx), .val (.ref ky), .val (.ref po), .val (.ref tk), .val (.int r), .val (.int sk), .unset] [(.int (0 : Int32))])) _
      exact k
    · skip
      refine ⟨(0 : Int32), Or.inr ⟨fun q => q.2.1.elim h2 h3, rfl⟩, fun t k => go157 t ?_⟩
      show Steps p.tables e below (T154.setTop (mkF m 219 #[.val (.int p1), .val (.int p2), .val (.int p3), .val (.int p4), .val (.int p5), .val (.int p6), .val (.int i1), .val (.int i2), .val (.int la), .val (.int lb), .val (.int c0), .val (.int c1), .val (.int bb), .val (.int d0), .val (.int d1), .val (.ref x), .val (.ref y), .val (.ref kx), .val (.ref ky), .val (.ref po), .val (.ref tk), .val (.int r), .val (.int sk), .unset] [(.int lb), (.int la)])) _
      refine XS.icmpNo X154.here hx rfl (hb hby at_219) rfl (teq (h1 : la = lb)).2 ?_
      show Steps p.tables e below (T154.setTop (mkF m 222 #[.val (.int p1), .val (.int p2), .val (.int p3), .val (.int p4), .val (.int p5), .val (.int p6), .val (.int i1), .val (.int i2), .val (.int la), .val (.int lb), .val (.int c0), .val (.int c1), .val (.int bb), .val (.int d0), .val (.int d1), .val (.ref x), .val (.ref y), .val (.ref kx), .val (.ref ky), .val (.ref po), .val (.ref tk), .val (.int r), .val (.int sk), .unset] [])) _
      refine XS.iload X154.here hx rfl (hb hby at_222) rfl ?_
      show Steps p.tables e below (T154.setTop (mkF m 224 #[.val (.int p1), .val (.int p2), .val (.int p3), .val (.int p4), .val (.int p5), .val (.int p6), .val (.int i1), .val (.int i2), .val (.int la), .val (.int lb), .val (.int c0), .val (.int c1), .val (.int bb), .val (.int d0), .val (.int d1), .val (.ref x), .val (.ref y), .val (.ref kx), .val (.ref ky), .val (.ref po), .val (.ref tk), .val (.int r), .val (.int sk), .unset] [(.int la)])) _
      refine XS.iconst X154.here hx rfl (hb hby at_224) ?_
      show Steps p.tables e below (T154.setTop (mkF m 225 #[.val (.int p1), .val (.int p2), .val (.int p3), .val (.int p4), .val (.int p5), .val (.int p6), .val (.int i1), .val (.int i2), .val (.int la), .val (.int lb), .val (.int c0), .val (.int c1), .val (.int bb), .val (.int d0), .val (.int d1), .val (.ref x), .val (.ref y), .val (.ref kx), .val (.ref ky), .val (.ref po), .val (.ref tk), .val (.int r), .val (.int sk), .unset] [(.int (1 : Int32)), (.int la)])) _
      refine XS.icmpNo X154.here hx rfl (hb hby at_225) rfl (flt (h2 : ¬ (la < (1 : Int32)))).1 ?_
      show Steps p.tables e below (T154.setTop (mkF m 228 #[.val (.int p1), .val (.int p2), .val (.int p3), .val (.int p4), .val (.int p5), .val (.int p6), .val (.int i1), .val (.int i2), .val (.int la), .val (.int lb), .val (.int c0), .val (.int c1), .val (.int bb), .val (.int d0), .val (.int d1), .val (.ref x), .val (.ref y), .val (.ref kx), .val (.ref ky), .val (.ref po), .val (.ref tk), .val (.int r), .val (.int sk), .unset] [])) _
      refine XS.iload X154.here hx rfl (hb hby at_228) rfl ?_
      show Steps p.tables e below (T154.setTop (mkF m 230 #[.val (.int p1), .val (.int p2), .val (.int p3), .val (.int p4), .val (.int p5), .val (.int p6), .val (.int i1), .val (.int i2), .val (.int la), .val (.int lb), .val (.int c0), .val (.int c1), .val (.int bb), .val (.int d0), .val (.int d1), .val (.ref x), .val (.ref y), .val (.ref kx), .val (.ref ky), .val (.ref po), .val (.ref tk), .val (.int r), .val (.int sk), .unset] [(.int c0)])) _
      refine XS.iload X154.here hx rfl (hb hby at_230) rfl ?_
      show Steps p.tables e below (T154.setTop (mkF m 232 #[.val (.int p1), .val (.int p2), .val (.int p3), .val (.int p4), .val (.int p5), .val (.int p6), .val (.int i1), .val (.int i2), .val (.int la), .val (.int lb), .val (.int c0), .val (.int c1), .val (.int bb), .val (.int d0), .val (.int d1), .val (.ref x), .val (.ref y), .val (.ref kx), .val (.ref ky), .val (.ref po), .val (.ref tk), .val (.int r), .val (.int sk), .unset] [(.int d0), (.int c0)])) _
      refine XS.icmpYes X154.here hx rfl (pc0 := 232) (pc' := 252) rfl (hb hby at_232) rfl (feq (h3 : ¬ (c0 = d0))).2 (by decide) (by decide) ?_
      show Steps p.tables e below (T154.setTop (mkF m 252 #[.val (.int p1), .val (.int p2), .val (.int p3), .val (.int p4), .val (.int p5), .val (.int p6), .val (.int i1), .val (.int i2), .val (.int la), .val (.int lb), .val (.int c0), .val (.int c1), .val (.int bb), .val (.int d0), .val (.int d1), .val (.ref x), .val (.ref y), .val (.ref kx), .val (.ref ky), .val (.ref po), .val (.ref tk), .val (.int r), .val (.int sk), .unset] [])) _
      refine XS.iconst X154.here hx rfl (hb hby at_252) ?_
      show Steps p.tables e below (T154.setTop (mkF m 253 #[.val (.int p1), .val (.int p2), .val (.int p3), .val (.int p4), .val (.int p5), .val (.int p6), .val (.int i1), .val (.int i2), .val (.int la), .val (.int lb), .val (.int c0), .val (.int c1), .val (.int bb), .val (.int d0), .val (.int d1), .val (.ref x), .val (.ref y), .val (.ref kx), .val (.ref ky), .val (.ref po), .val (.ref tk), .val (.int r), .val (.int sk), .unset] [(.int (0 : Int32))])) _
      exact k
    · skip
      refine ⟨(1 : Int32), Or.inl ⟨⟨h1, Or.inl h2, Or.inl h4⟩, rfl⟩, fun t k => go157 t ?_⟩
      show Steps p.tables e below (T154.setTop (mkF m 219 #[.val (.int p1), .val (.int p2), .val (.int p3), .val (.int p4), .val (.int p5), .val (.int p6), .val (.int i1), .val (.int i2), .val (.int la), .val (.int lb), .val (.int c0), .val (.int c1), .val (.int bb), .val (.int d0), .val (.int d1), .val (.ref x), .val (.ref y), .val (.ref kx), .val (.ref ky), .val (.ref po), .val (.ref tk), .val (.int r), .val (.int sk), .unset] [(.int lb), (.int la)])) _
      refine XS.icmpNo X154.here hx rfl (hb hby at_219) rfl (teq (h1 : la = lb)).2 ?_
      show Steps p.tables e below (T154.setTop (mkF m 222 #[.val (.int p1), .val (.int p2), .val (.int p3), .val (.int p4), .val (.int p5), .val (.int p6), .val (.int i1), .val (.int i2), .val (.int la), .val (.int lb), .val (.int c0), .val (.int c1), .val (.int bb), .val (.int d0), .val (.int d1), .val (.ref x), .val (.ref y), .val (.ref kx), .val (.ref ky), .val (.ref po), .val (.ref tk), .val (.int r), .val (.int sk), .unset] [])) _
      refine XS.iload X154.here hx rfl (hb hby at_222) rfl ?_
      show Steps p.tables e below (T154.setTop (mkF m 224 #[.val (.int p1), .val (.int p2), .val (.int p3), .val (.int p4), .val (.int p5), .val (.int p6), .val (.int i1), .val (.int i2), .val (.int la), .val (.int lb), .val (.int c0), .val (.int c1), .val (.int bb), .val (.int d0), .val (.int d1), .val (.ref x), .val (.ref y), .val (.ref kx), .val (.ref ky), .val (.ref po), .val (.ref tk), .val (.int r), .val (.int sk), .unset] [(.int la)])) _
      refine XS.iconst X154.here hx rfl (hb hby at_224) ?_
      show Steps p.tables e below (T154.setTop (mkF m 225 #[.val (.int p1), .val (.int p2), .val (.int p3), .val (.int p4), .val (.int p5), .val (.int p6), .val (.int i1), .val (.int i2), .val (.int la), .val (.int lb), .val (.int c0), .val (.int c1), .val (.int bb), .val (.int d0), .val (.int d1), .val (.ref x), .val (.ref y), .val (.ref kx), .val (.ref ky), .val (.ref po), .val (.ref tk), .val (.int r), .val (.int sk), .unset] [(.int (1 : Int32)), (.int la)])) _
      refine XS.icmpYes X154.here hx rfl (pc0 := 225) (pc' := 235) rfl (hb hby at_225) rfl (tlt (h2 : la < (1 : Int32))).1 (by decide) (by decide) ?_
      show Steps p.tables e below (T154.setTop (mkF m 235 #[.val (.int p1), .val (.int p2), .val (.int p3), .val (.int p4), .val (.int p5), .val (.int p6), .val (.int i1), .val (.int i2), .val (.int la), .val (.int lb), .val (.int c0), .val (.int c1), .val (.int bb), .val (.int d0), .val (.int d1), .val (.ref x), .val (.ref y), .val (.ref kx), .val (.ref ky), .val (.ref po), .val (.ref tk), .val (.int r), .val (.int sk), .unset] [])) _
      refine XS.iload X154.here hx rfl (hb hby at_235) rfl ?_
      show Steps p.tables e below (T154.setTop (mkF m 237 #[.val (.int p1), .val (.int p2), .val (.int p3), .val (.int p4), .val (.int p5), .val (.int p6), .val (.int i1), .val (.int i2), .val (.int la), .val (.int lb), .val (.int c0), .val (.int c1), .val (.int bb), .val (.int d0), .val (.int d1), .val (.ref x), .val (.ref y), .val (.ref kx), .val (.ref ky), .val (.ref po), .val (.ref tk), .val (.int r), .val (.int sk), .unset] [(.int la)])) _
      refine XS.iconst X154.here hx rfl (hb hby at_237) ?_
      show Steps p.tables e below (T154.setTop (mkF m 238 #[.val (.int p1), .val (.int p2), .val (.int p3), .val (.int p4), .val (.int p5), .val (.int p6), .val (.int i1), .val (.int i2), .val (.int la), .val (.int lb), .val (.int c0), .val (.int c1), .val (.int bb), .val (.int d0), .val (.int d1), .val (.ref x), .val (.ref y), .val (.ref kx), .val (.ref ky), .val (.ref po), .val (.ref tk), .val (.int r), .val (.int sk), .unset] [(.int (2 : Int32)), (.int la)])) _
      refine XS.icmpYes X154.here hx rfl (pc0 := 238) (pc' := 248) rfl (hb hby at_238) rfl (tlt (h4 : la < (2 : Int32))).1 (by decide) (by decide) ?_
      show Steps p.tables e below (T154.setTop (mkF m 248 #[.val (.int p1), .val (.int p2), .val (.int p3), .val (.int p4), .val (.int p5), .val (.int p6), .val (.int i1), .val (.int i2), .val (.int la), .val (.int lb), .val (.int c0), .val (.int c1), .val (.int bb), .val (.int d0), .val (.int d1), .val (.ref x), .val (.ref y), .val (.ref kx), .val (.ref ky), .val (.ref po), .val (.ref tk), .val (.int r), .val (.int sk), .unset] [])) _
      refine XS.iconst X154.here hx rfl (hb hby at_248) ?_
      show Steps p.tables e below (T154.setTop (mkF m 249 #[.val (.int p1), .val (.int p2), .val (.int p3), .val (.int p4), .val (.int p5), .val (.int p6), .val (.int i1), .val (.int i2), .val (.int la), .val (.int lb), .val (.int c0), .val (.int c1), .val (.int bb), .val (.int d0), .val (.int d1), .val (.ref x), .val (.ref y), .val (.ref kx), .val (.ref ky), .val (.ref po), .val (.ref tk), .val (.int r), .val (.int sk), .unset] [(.int (1 : Int32))])) _
      refine XS.goto X154.here hx rfl (pc0 := 249) (pc' := 253) rfl (hb hby at_249) (by decide) (by decide) ?_
      show Steps p.tables e below (T154.setTop (mkF m 253 #[.val (.int p1), .val (.int p2), .val (.int p3), .val (.int p4), .val (.int p5), .val (.int p6), .val (.int i1), .val (.int i2), .val (.int la), .val (.int lb), .val (.int c0), .val (.int c1), .val (.int bb), .val (.int d0), .val (.int d1), .val (.ref x), .val (.ref y), .val (.ref kx), .val (.ref ky), .val (.ref po), .val (.ref tk), .val (.int r), .val (.int sk), .unset] [(.int (1 : Int32))])) _
      exact k
    · skip
      refine ⟨(0 : Int32), Or.inr ⟨fun q => q.2.2.elim h4 h5, rfl⟩, fun t k => go157 t ?_⟩
      show Steps p.tables e below (T154.setTop (mkF m 219 #[.val (.int p1), .val (.int p2), .val (.int p3), .val (.int p4), .val (.int p5), .val (.int p6), .val (.int i1), .val (.int i2), .val (.int la), .val (.int lb), .val (.int c0), .val (.int c1), .val (.int bb), .val (.int d0), .val (.int d1), .val (.ref x), .val (.ref y), .val (.ref kx), .val (.ref ky), .val (.ref po), .val (.ref tk), .val (.int r), .val (.int sk), .unset] [(.int lb), (.int la)])) _
      refine XS.icmpNo X154.here hx rfl (hb hby at_219) rfl (teq (h1 : la = lb)).2 ?_
      show Steps p.tables e below (T154.setTop (mkF m 222 #[.val (.int p1), .val (.int p2), .val (.int p3), .val (.int p4), .val (.int p5), .val (.int p6), .val (.int i1), .val (.int i2), .val (.int la), .val (.int lb), .val (.int c0), .val (.int c1), .val (.int bb), .val (.int d0), .val (.int d1), .val (.ref x), .val (.ref y), .val (.ref kx), .val (.ref ky), .val (.ref po), .val (.ref tk), .val (.int r), .val (.int sk), .unset] [])) _
      refine XS.iload X154.here hx rfl (hb hby at_222) rfl ?_
      show Steps p.tables e below (T154.setTop (mkF m 224 #[.val (.int p1), .val (.int p2), .val (.int p3), .val (.int p4), .val (.int p5), .val (.int p6), .val (.int i1), .val (.int i2), .val (.int la), .val (.int lb), .val (.int c0), .val (.int c1), .val (.int bb), .val (.int d0), .val (.int d1), .val (.ref x), .val (.ref y), .val (.ref kx), .val (.ref ky), .val (.ref po), .val (.ref tk), .val (.int r), .val (.int sk), .unset] [(.int la)])) _
      refine XS.iconst X154.here hx rfl (hb hby at_224) ?_
      show Steps p.tables e below (T154.setTop (mkF m 225 #[.val (.int p1), .val (.int p2), .val (.int p3), .val (.int p4), .val (.int p5), .val (.int p6), .val (.int i1), .val (.int i2), .val (.int la), .val (.int lb), .val (.int c0), .val (.int c1), .val (.int bb), .val (.int d0), .val (.int d1), .val (.ref x), .val (.ref y), .val (.ref kx), .val (.ref ky), .val (.ref po), .val (.ref tk), .val (.int r), .val (.int sk), .unset] [(.int (1 : Int32)), (.int la)])) _
      refine XS.icmpYes X154.here hx rfl (pc0 := 225) (pc' := 235) rfl (hb hby at_225) rfl (tlt (h2 : la < (1 : Int32))).1 (by decide) (by decide) ?_
      show Steps p.tables e below (T154.setTop (mkF m 235 #[.val (.int p1), .val (.int p2), .val (.int p3), .val (.int p4), .val (.int p5), .val (.int p6), .val (.int i1), .val (.int i2), .val (.int la), .val (.int lb), .val (.int c0), .val (.int c1), .val (.int bb), .val (.int d0), .val (.int d1), .val (.ref x), .val (.ref y), .val (.ref kx), .val (.ref ky), .val (.ref po), .val (.ref tk), .val (.int r), .val (.int sk), .unset] [])) _
      refine XS.iload X154.here hx rfl (hb hby at_235) rfl ?_
      show Steps p.tables e below (T154.setTop (mkF m 237 #[.val (.int p1), .val (.int p2), .val (.int p3), .val (.int p4), .val (.int p5), .val (.int p6), .val (.int i1), .val (.int i2), .val (.int la), .val (.int lb), .val (.int c0), .val (.int c1), .val (.int bb), .val (.int d0), .val (.int d1), .val (.ref x), .val (.ref y), .val (.ref kx), .val (.ref ky), .val (.ref po), .val (.ref tk), .val (.int r), .val (.int sk), .unset] [(.int la)])) _
      refine XS.iconst X154.here hx rfl (hb hby at_237) ?_
      show Steps p.tables e below (T154.setTop (mkF m 238 #[.val (.int p1), .val (.int p2), .val (.int p3), .val (.int p4), .val (.int p5), .val (.int p6), .val (.int i1), .val (.int i2), .val (.int la), .val (.int lb), .val (.int c0), .val (.int c1), .val (.int bb), .val (.int d0), .val (.int d1), .val (.ref x), .val (.ref y), .val (.ref kx), .val (.ref ky), .val (.ref po), .val (.ref tk), .val (.int r), .val (.int sk), .unset] [(.int (2 : Int32)), (.int la)])) _
      refine XS.icmpNo X154.here hx rfl (hb hby at_238) rfl (flt (h4 : ¬ (la < (2 : Int32)))).1 ?_
      show Steps p.tables e below (T154.setTop (mkF m 241 #[.val (.int p1), .val (.int p2), .val (.int p3), .val (.int p4), .val (.int p5), .val (.int p6), .val (.int i1), .val (.int i2), .val (.int la), .val (.int lb), .val (.int c0), .val (.int c1), .val (.int bb), .val (.int d0), .val (.int d1), .val (.ref x), .val (.ref y), .val (.ref kx), .val (.ref ky), .val (.ref po), .val (.ref tk), .val (.int r), .val (.int sk), .unset] [])) _
      refine XS.iload X154.here hx rfl (hb hby at_241) rfl ?_
      show Steps p.tables e below (T154.setTop (mkF m 243 #[.val (.int p1), .val (.int p2), .val (.int p3), .val (.int p4), .val (.int p5), .val (.int p6), .val (.int i1), .val (.int i2), .val (.int la), .val (.int lb), .val (.int c0), .val (.int c1), .val (.int bb), .val (.int d0), .val (.int d1), .val (.ref x), .val (.ref y), .val (.ref kx), .val (.ref ky), .val (.ref po), .val (.ref tk), .val (.int r), .val (.int sk), .unset] [(.int c1)])) _
      refine XS.iload X154.here hx rfl (hb hby at_243) rfl ?_
      show Steps p.tables e below (T154.setTop (mkF m 245 #[.val (.int p1), .val (.int p2), .val (.int p3), .val (.int p4), .val (.int p5), .val (.int p6), .val (.int i1), .val (.int i2), .val (.int la), .val (.int lb), .val (.int c0), .val (.int c1), .val (.int bb), .val (.int d0), .val (.int d1), .val (.ref x), .val (.ref y), .val (.ref kx), .val (.ref ky), .val (.ref po), .val (.ref tk), .val (.int r), .val (.int sk), .unset] [(.int d1), (.int c1)])) _
      refine XS.icmpYes X154.here hx rfl (pc0 := 245) (pc' := 252) rfl (hb hby at_245) rfl (feq (h5 : ¬ (c1 = d1))).2 (by decide) (by decide) ?_
      show Steps p.tables e below (T154.setTop (mkF m 252 #[.val (.int p1), .val (.int p2), .val (.int p3), .val (.int p4), .val (.int p5), .val (.int p6), .val (.int i1), .val (.int i2), .val (.int la), .val (.int lb), .val (.int c0), .val (.int c1), .val (.int bb), .val (.int d0), .val (.int d1), .val (.ref x), .val (.ref y), .val (.ref kx), .val (.ref ky), .val (.ref po), .val (.ref tk), .val (.int r), .val (.int sk), .unset] [])) _
      refine XS.iconst X154.here hx rfl (hb hby at_252) ?_
      show Steps p.tables e below (T154.setTop (mkF m 253 #[.val (.int p1), .val (.int p2), .val (.int p3), .val (.int p4), .val (.int p5), .val (.int p6), .val (.int i1), .val (.int i2), .val (.int la), .val (.int lb), .val (.int c0), .val (.int c1), .val (.int bb), .val (.int d0), .val (.int d1), .val (.ref x), .val (.ref y), .val (.ref kx), .val (.ref ky), .val (.ref po), .val (.ref tk), .val (.int r), .val (.int sk), .unset] [(.int (0 : Int32))])) _
      exact k
    · skip
      refine ⟨(1 : Int32), Or.inl ⟨⟨h1, Or.inl h2, Or.inr h5⟩, rfl⟩, fun t k => go157 t ?_⟩
      show Steps p.tables e below (T154.setTop (mkF m 219 #[.val (.int p1), .val (.int p2), .val (.int p3), .val (.int p4), .val (.int p5), .val (.int p6), .val (.int i1), .val (.int i2), .val (.int la), .val (.int lb), .val (.int c0), .val (.int c1), .val (.int bb), .val (.int d0), .val (.int d1), .val (.ref x), .val (.ref y), .val (.ref kx), .val (.ref ky), .val (.ref po), .val (.ref tk), .val (.int r), .val (.int sk), .unset] [(.int lb), (.int la)])) _
      refine XS.icmpNo X154.here hx rfl (hb hby at_219) rfl (teq (h1 : la = lb)).2 ?_
      show Steps p.tables e below (T154.setTop (mkF m 222 #[.val (.int p1), .val (.int p2), .val (.int p3), .val (.int p4), .val (.int p5), .val (.int p6), .val (.int i1), .val (.int i2), .val (.int la), .val (.int lb), .val (.int c0), .val (.int c1), .val (.int bb), .val (.int d0), .val (.int d1), .val (.ref x), .val (.ref y), .val (.ref kx), .val (.ref ky), .val (.ref po), .val (.ref tk), .val (.int r), .val (.int sk), .unset] [])) _
      refine XS.iload X154.here hx rfl (hb hby at_222) rfl ?_
      show Steps p.tables e below (T154.setTop (mkF m 224 #[.val (.int p1), .val (.int p2), .val (.int p3), .val (.int p4), .val (.int p5), .val (.int p6), .val (.int i1), .val (.int i2), .val (.int la), .val (.int lb), .val (.int c0), .val (.int c1), .val (.int bb), .val (.int d0), .val (.int d1), .val (.ref x), .val (.ref y), .val (.ref kx), .val (.ref ky), .val (.ref po), .val (.ref tk), .val (.int r), .val (.int sk), .unset] [(.int la)])) _
      refine XS.iconst X154.here hx rfl (hb hby at_224) ?_
      show Steps p.tables e below (T154.setTop (mkF m 225 #[.val (.int p1), .val (.int p2), .val (.int p3), .val (.int p4), .val (.int p5), .val (.int p6), .val (.int i1), .val (.int i2), .val (.int la), .val (.int lb), .val (.int c0), .val (.int c1), .val (.int bb), .val (.int d0), .val (.int d1), .val (.ref x), .val (.ref y), .val (.ref kx), .val (.ref ky), .val (.ref po), .val (.ref tk), .val (.int r), .val (.int sk), .unset] [(.int (1 : Int32)), (.int la)])) _
      refine XS.icmpYes X154.here hx rfl (pc0 := 225) (pc' := 235) rfl (hb hby at_225) rfl (tlt (h2 : la < (1 : Int32))).1 (by decide) (by decide) ?_
      show Steps p.tables e below (T154.setTop (mkF m 235 #[.val (.int p1), .val (.int p2), .val (.int p3), .val (.int p4), .val (.int p5), .val (.int p6), .val (.int i1), .val (.int i2), .val (.int la), .val (.int lb), .val (.int c0), .val (.int c1), .val (.int bb), .val (.int d0), .val (.int d1), .val (.ref x), .val (.ref y), .val (.ref kx), .val (.ref ky), .val (.ref po), .val (.ref tk), .val (.int r), .val (.int sk), .unset] [])) _
      refine XS.iload X154.here hx rfl (hb hby at_235) rfl ?_
      show Steps p.tables e below (T154.setTop (mkF m 237 #[.val (.int p1), .val (.int p2), .val (.int p3), .val (.int p4), .val (.int p5), .val (.int p6), .val (.int i1), .val (.int i2), .val (.int la), .val (.int lb), .val (.int c0), .val (.int c1), .val (.int bb), .val (.int d0), .val (.int d1), .val (.ref x), .val (.ref y), .val (.ref kx), .val (.ref ky), .val (.ref po), .val (.ref tk), .val (.int r), .val (.int sk), .unset] [(.int la)])) _
      refine XS.iconst X154.here hx rfl (hb hby at_237) ?_
      show Steps p.tables e below (T154.setTop (mkF m 238 #[.val (.int p1), .val (.int p2), .val (.int p3), .val (.int p4), .val (.int p5), .val (.int p6), .val (.int i1), .val (.int i2), .val (.int la), .val (.int lb), .val (.int c0), .val (.int c1), .val (.int bb), .val (.int d0), .val (.int d1), .val (.ref x), .val (.ref y), .val (.ref kx), .val (.ref ky), .val (.ref po), .val (.ref tk), .val (.int r), .val (.int sk), .unset] [(.int (2 : Int32)), (.int la)])) _
      refine XS.icmpNo X154.here hx rfl (hb hby at_238) rfl (flt (h4 : ¬ (la < (2 : Int32)))).1 ?_
      show Steps p.tables e below (T154.setTop (mkF m 241 #[.val (.int p1), .val (.int p2), .val (.int p3), .val (.int p4), .val (.int p5), .val (.int p6), .val (.int i1), .val (.int i2), .val (.int la), .val (.int lb), .val (.int c0), .val (.int c1), .val (.int bb), .val (.int d0), .val (.int d1), .val (.ref x), .val (.ref y), .val (.ref kx), .val (.ref ky), .val (.ref po), .val (.ref tk), .val (.int r), .val (.int sk), .unset] [])) _
      refine XS.iload X154.here hx rfl (hb hby at_241) rfl ?_
      show Steps p.tables e below (T154.setTop (mkF m 243 #[.val (.int p1), .val (.int p2), .val (.int p3), .val (.int p4), .val (.int p5), .val (.int p6), .val (.int i1), .val (.int i2), .val (.int la), .val (.int lb), .val (.int c0), .val (.int c1), .val (.int bb), .val (.int d0), .val (.int d1), .val (.ref x), .val (.ref y), .val (.ref kx), .val (.ref ky), .val (.ref po), .val (.ref tk), .val (.int r), .val (.int sk), .unset] [(.int c1)])) _
      refine XS.iload X154.here hx rfl (hb hby at_243) rfl ?_
      show Steps p.tables e below (T154.setTop (mkF m 245 #[.val (.int p1), .val (.int p2), .val (.int p3), .val (.int p4), .val (.int p5), .val (.int p6), .val (.int i1), .val (.int i2), .val (.int la), .val (.int lb), .val (.int c0), .val (.int c1), .val (.int bb), .val (.int d0), .val (.int d1), .val (.ref x), .val (.ref y), .val (.ref kx), .val (.ref ky), .val (.ref po), .val (.ref tk), .val (.int r), .val (.int sk), .unset] [(.int d1), (.int c1)])) _
      refine XS.icmpNo X154.here hx rfl (hb hby at_245) rfl (teq (h5 : c1 = d1)).2 ?_
      show Steps p.tables e below (T154.setTop (mkF m 248 #[.val (.int p1), .val (.int p2), .val (.int p3), .val (.int p4), .val (.int p5), .val (.int p6), .val (.int i1), .val (.int i2), .val (.int la), .val (.int lb), .val (.int c0), .val (.int c1), .val (.int bb), .val (.int d0), .val (.int d1), .val (.ref x), .val (.ref y), .val (.ref kx), .val (.ref ky), .val (.ref po), .val (.ref tk), .val (.int r), .val (.int sk), .unset] [])) _
      refine XS.iconst X154.here hx rfl (hb hby at_248) ?_
      show Steps p.tables e below (T154.setTop (mkF m 249 #[.val (.int p1), .val (.int p2), .val (.int p3), .val (.int p4), .val (.int p5), .val (.int p6), .val (.int i1), .val (.int i2), .val (.int la), .val (.int lb), .val (.int c0), .val (.int c1), .val (.int bb), .val (.int d0), .val (.int d1), .val (.ref x), .val (.ref y), .val (.ref kx), .val (.ref ky), .val (.ref po), .val (.ref tk), .val (.int r), .val (.int sk), .unset] [(.int (1 : Int32))])) _
      refine XS.goto X154.here hx rfl (pc0 := 249) (pc' := 253) rfl (hb hby at_249) (by decide) (by decide) ?_
      show Steps p.tables e below (T154.setTop (mkF m 253 #[.val (.int p1), .val (.int p2), .val (.int p3), .val (.int p4), .val (.int p5), .val (.int p6), .val (.int i1), .val (.int i2), .val (.int la), .val (.int lb), .val (.int c0), .val (.int c1), .val (.int bb), .val (.int d0), .val (.int d1), .val (.ref x), .val (.ref y), .val (.ref kx), .val (.ref ky), .val (.ref po), .val (.ref tk), .val (.int r), .val (.int sk), .unset] [(.int (1 : Int32))])) _
      exact k
    · skip
      refine ⟨(1 : Int32), Or.inl ⟨⟨h1, Or.inr h3, Or.inl h4⟩, rfl⟩, fun t k => go157 t ?_⟩
      show Steps p.tables e below (T154.setTop (mkF m 219 #[.val (.int p1), .val (.int p2), .val (.int p3), .val (.int p4), .val (.int p5), .val (.int p6), .val (.int i1), .val (.int i2), .val (.int la), .val (.int lb), .val (.int c0), .val (.int c1), .val (.int bb), .val (.int d0), .val (.int d1), .val (.ref x), .val (.ref y), .val (.ref kx), .val (.ref ky), .val (.ref po), .val (.ref tk), .val (.int r), .val (.int sk), .unset] [(.int lb), (.int la)])) _
      refine XS.icmpNo X154.here hx rfl (hb hby at_219) rfl (teq (h1 : la = lb)).2 ?_
      show Steps p.tables e below (T154.setTop (mkF m 222 #[.val (.int p1), .val (.int p2), .val (.int p3), .val (.int p4), .val (.int p5), .val (.int p6), .val (.int i1), .val (.int i2), .val (.int la), .val (.int lb), .val (.int c0), .val (.int c1), .val (.int bb), .val (.int d0), .val (.int d1), .val (.ref x), .val (.ref y), .val (.ref kx), .val (.ref ky), .val (.ref po), .val (.ref tk), .val (.int r), .val (.int sk), .unset] [])) _
      refine XS.iload X154.here hx rfl (hb hby at_222) rfl ?_
      show Steps p.tables e below (T154.setTop (mkF m 224 #[.val (.int p1), .val (.int p2), .val (.int p3), .val (.int p4), .val (.int p5), .val (.int p6), .val (.int i1), .val (.int i2), .val (.int la), .val (.int lb), .val (.int c0), .val (.int c1), .val (.int bb), .val (.int d0), .val (.int d1), .val (.ref x), .val (.ref y), .val (.ref kx), .val (.ref ky), .val (.ref po), .val (.ref tk), .val (.int r), .val (.int sk), .unset] [(.int la)])) _
      refine XS.iconst X154.here hx rfl (hb hby at_224) ?_
      show Steps p.tables e below (T154.setTop (mkF m 225 #[.val (.int p1), .val (.int p2), .val (.int p3), .val (.int p4), .val (.int p5), .val (.int p6), .val (.int i1), .val (.int i2), .val (.int la), .val (.int lb), .val (.int c0), .val (.int c1), .val (.int bb), .val (.int d0), .val (.int d1), .val (.ref x), .val (.ref y), .val (.ref kx), .val (.ref ky), .val (.ref po), .val (.ref tk), .val (.int r), .val (.int sk), .unset] [(.int (1 : Int32)), (.int la)])) _
      refine XS.icmpNo X154.here hx rfl (hb hby at_225) rfl (flt (h2 : ¬ (la < (1 : Int32)))).1 ?_
      show Steps p.tables e below (T154.setTop (mkF m 228 #[.val (.int p1), .val (.int p2), .val (.int p3), .val (.int p4), .val (.int p5), .val (.int p6), .val (.int i1), .val (.int i2), .val (.int la), .val (.int lb), .val (.int c0), .val (.int c1), .val (.int bb), .val (.int d0), .val (.int d1), .val (.ref x), .val (.ref y), .val (.ref kx), .val (.ref ky), .val (.ref po), .val (.ref tk), .val (.int r), .val (.int sk), .unset] [])) _
      refine XS.iload X154.here hx rfl (hb hby at_228) rfl ?_
      show Steps p.tables e below (T154.setTop (mkF m 230 #[.val (.int p1), .val (.int p2), .val (.int p3), .val (.int p4), .val (.int p5), .val (.int p6), .val (.int i1), .val (.int i2), .val (.int la), .val (.int lb), .val (.int c0), .val (.int c1), .val (.int bb), .val (.int d0), .val (.int d1), .val (.ref x), .val (.ref y), .val (.ref kx), .val (.ref ky), .val (.ref po), .val (.ref tk), .val (.int r), .val (.int sk), .unset] [(.int c0)])) _
      refine XS.iload X154.here hx rfl (hb hby at_230) rfl ?_
      show Steps p.tables e below (T154.setTop (mkF m 232 #[.val (.int p1), .val (.int p2), .val (.int p3), .val (.int p4), .val (.int p5), .val (.int p6), .val (.int i1), .val (.int i2), .val (.int la), .val (.int lb), .val (.int c0), .val (.int c1), .val (.int bb), .val (.int d0), .val (.int d1), .val (.ref x), .val (.ref y), .val (.ref kx), .val (.ref ky), .val (.ref po), .val (.ref tk), .val (.int r), .val (.int sk), .unset] [(.int d0), (.int c0)])) _
      refine XS.icmpNo X154.here hx rfl (hb hby at_232) rfl (teq (h3 : c0 = d0)).2 ?_
      show Steps p.tables e below (T154.setTop (mkF m 235 #[.val (.int p1), .val (.int p2), .val (.int p3), .val (.int p4), .val (.int p5), .val (.int p6), .val (.int i1), .val (.int i2), .val (.int la), .val (.int lb), .val (.int c0), .val (.int c1), .val (.int bb), .val (.int d0), .val (.int d1), .val (.ref x), .val (.ref y), .val (.ref kx), .val (.ref ky), .val (.ref po), .val (.ref tk), .val (.int r), .val (.int sk), .unset] [])) _
      refine XS.iload X154.here hx rfl (hb hby at_235) rfl ?_
      show Steps p.tables e below (T154.setTop (mkF m 237 #[.val (.int p1), .val (.int p2), .val (.int p3), .val (.int p4), .val (.int p5), .val (.int p6), .val (.int i1), .val (.int i2), .val (.int la), .val (.int lb), .val (.int c0), .val (.int c1), .val (.int bb), .val (.int d0), .val (.int d1), .val (.ref x), .val (.ref y), .val (.ref kx), .val (.ref ky), .val (.ref po), .val (.ref tk), .val (.int r), .val (.int sk), .unset] [(.int la)])) _
      refine XS.iconst X154.here hx rfl (hb hby at_237) ?_
      show Steps p.tables e below (T154.setTop (mkF m 238 #[.val (.int p1), .val (.int p2), .val (.int p3), .val (.int p4), .val (.int p5), .val (.int p6), .val (.int i1), .val (.int i2), .val (.int la), .val (.int lb), .val (.int c0), .val (.int c1), .val (.int bb), .val (.int d0), .val (.int d1), .val (.ref x), .val (.ref y), .val (.ref kx), .val (.ref ky), .val (.ref po), .val (.ref tk), .val (.int r), .val (.int sk), .unset] [(.int (2 : Int32)), (.int la)])) _
      refine XS.icmpYes X154.here hx rfl (pc0 := 238) (pc' := 248) rfl (hb hby at_238) rfl (tlt (h4 : la < (2 : Int32))).1 (by decide) (by decide) ?_
      show Steps p.tables e below (T154.setTop (mkF m 248 #[.val (.int p1), .val (.int p2), .val (.int p3), .val (.int p4), .val (.int p5), .val (.int p6), .val (.int i1), .val (.int i2), .val (.int la), .val (.int lb), .val (.int c0), .val (.int c1), .val (.int bb), .val (.int d0), .val (.int d1), .val (.ref x), .val (.ref y), .val (.ref kx), .val (.ref ky), .val (.ref po), .val (.ref tk), .val (.int r), .val (.int sk), .unset] [])) _
      refine XS.iconst X154.here hx rfl (hb hby at_248) ?_
      show Steps p.tables e below (T154.setTop (mkF m 249 #[.val (.int p1), .val (.int p2), .val (.int p3), .val (.int p4), .val (.int p5), .val (.int p6), .val (.int i1), .val (.int i2), .val (.int la), .val (.int lb), .val (.int c0), .val (.int c1), .val (.int bb), .val (.int d0), .val (.int d1), .val (.ref x), .val (.ref y), .val (.ref kx), .val (.ref ky), .val (.ref po), .val (.ref tk), .val (.int r), .val (.int sk), .unset] [(.int (1 : Int32))])) _
      refine XS.goto X154.here hx rfl (pc0 := 249) (pc' := 253) rfl (hb hby at_249) (by decide) (by decide) ?_
      show Steps p.tables e below (T154.setTop (mkF m 253 #[.val (.int p1), .val (.int p2), .val (.int p3), .val (.int p4), .val (.int p5), .val (.int p6), .val (.int i1), .val (.int i2), .val (.int la), .val (.int lb), .val (.int c0), .val (.int c1), .val (.int bb), .val (.int d0), .val (.int d1), .val (.ref x), .val (.ref y), .val (.ref kx), .val (.ref ky), .val (.ref po), .val (.ref tk), .val (.int r), .val (.int sk), .unset] [(.int (1 : Int32))])) _
      exact k
    · skip
      refine ⟨(0 : Int32), Or.inr ⟨fun q => q.2.2.elim h4 h5, rfl⟩, fun t k => go157 t ?_⟩
      show Steps p.tables e below (T154.setTop (mkF m 219 #[.val (.int p1), .val (.int p2), .val (.int p3), .val (.int p4), .val (.int p5), .val (.int p6), .val (.int i1), .val (.int i2), .val (.int la), .val (.int lb), .val (.int c0), .val (.int c1), .val (.int bb), .val (.int d0), .val (.int d1), .val (.ref x), .val (.ref y), .val (.ref kx), .val (.ref ky), .val (.ref po), .val (.ref tk), .val (.int r), .val (.int sk), .unset] [(.int lb), (.int la)])) _
      refine XS.icmpNo X154.here hx rfl (hb hby at_219) rfl (teq (h1 : la = lb)).2 ?_
      show Steps p.tables e below (T154.setTop (mkF m 222 #[.val (.int p1), .val (.int p2), .val (.int p3), .val (.int p4), .val (.int p5), .val (.int p6), .val (.int i1), .val (.int i2), .val (.int la), .val (.int lb), .val (.int c0), .val (.int c1), .val (.int bb), .val (.int d0), .val (.int d1), .val (.ref x), .val (.ref y), .val (.ref kx), .val (.ref ky), .val (.ref po), .val (.ref tk), .val (.int r), .val (.int sk), .unset] [])) _
      refine XS.iload X154.here hx rfl (hb hby at_222) rfl ?_
      show Steps p.tables e below (T154.setTop (mkF m 224 #[.val (.int p1), .val (.int p2), .val (.int p3), .val (.int p4), .val (.int p5), .val (.int p6), .val (.int i1), .val (.int i2), .val (.int la), .val (.int lb), .val (.int c0), .val (.int c1), .val (.int bb), .val (.int d0), .val (.int d1), .val (.ref x), .val (.ref y), .val (.ref kx), .val (.ref ky), .val (.ref po), .val (.ref tk), .val (.int r), .val (.int sk), .unset] [(.int la)])) _
      refine XS.iconst X154.here hx rfl (hb hby at_224) ?_
      show Steps p.tables e below (T154.setTop (mkF m 225 #[.val (.int p1), .val (.int p2), .val (.int p3), .val (.int p4), .val (.int p5), .val (.int p6), .val (.int i1), .val (.int i2), .val (.int la), .val (.int lb), .val (.int c0), .val (.int c1), .val (.int bb), .val (.int d0), .val (.int d1), .val (.ref x), .val (.ref y), .val (.ref kx), .val (.ref ky), .val (.ref po), .val (.ref tk), .val (.int r), .val (.int sk), .unset] [(.int (1 : Int32)), (.int la)])) _
      refine XS.icmpNo X154.here hx rfl (hb hby at_225) rfl (flt (h2 : ¬ (la < (1 : Int32)))).1 ?_
      show Steps p.tables e below (T154.setTop (mkF m 228 #[.val (.int p1), .val (.int p2), .val (.int p3), .val (.int p4), .val (.int p5), .val (.int p6), .val (.int i1), .val (.int i2), .val (.int la), .val (.int lb), .val (.int c0), .val (.int c1), .val (.int bb), .val (.int d0), .val (.int d1), .val (.ref x), .val (.ref y), .val (.ref kx), .val (.ref ky), .val (.ref po), .val (.ref tk), .val (.int r), .val (.int sk), .unset] [])) _
      refine XS.iload X154.here hx rfl (hb hby at_228) rfl ?_
      show Steps p.tables e below (T154.setTop (mkF m 230 #[.val (.int p1), .val (.int p2), .val (.int p3), .val (.int p4), .val (.int p5), .val (.int p6), .val (.int i1), .val (.int i2), .val (.int la), .val (.int lb), .val (.int c0), .val (.int c1), .val (.int bb), .val (.int d0), .val (.int d1), .val (.ref x), .val (.ref y), .val (.ref kx), .val (.ref ky), .val (.ref po), .val (.ref tk), .val (.int r), .val (.int sk), .unset] [(.int c0)])) _
      refine XS.iload X154.here hx rfl (hb hby at_230) rfl ?_
      show Steps p.tables e below (T154.setTop (mkF m 232 #[.val (.int p1), .val (.int p2), .val (.int p3), .val (.int p4), .val (.int p5), .val (.int p6), .val (.int i1), .val (.int i2), .val (.int la), .val (.int lb), .val (.int c0), .val (.int c1), .val (.int bb), .val (.int d0), .val (.int d1), .val (.ref x), .val (.ref y), .val (.ref kx), .val (.ref ky), .val (.ref po), .val (.ref tk), .val (.int r), .val (.int sk), .unset] [(.int d0), (.int c0)])) _
      refine XS.icmpNo X154.here hx rfl (hb hby at_232) rfl (teq (h3 : c0 = d0)).2 ?_
      show Steps p.tables e below (T154.setTop (mkF m 235 #[.val (.int p1), .val (.int p2), .val (.int p3), .val (.int p4), .val (.int p5), .val (.int p6), .val (.int i1), .val (.int i2), .val (.int la), .val (.int lb), .val (.int c0), .val (.int c1), .val (.int bb), .val (.int d0), .val (.int d1), .val (.ref x), .val (.ref y), .val (.ref kx), .val (.ref ky), .val (.ref po), .val (.ref tk), .val (.int r), .val (.int sk), .unset] [])) _
      refine XS.iload X154.here hx rfl (hb hby at_235) rfl ?_
      show Steps p.tables e below (T154.setTop (mkF m 237 #[.val (.int p1), .val (.int p2), .val (.int p3), .val (.int p4), .val (.int p5), .val (.int p6), .val (.int i1), .val (.int i2), .val (.int la), .val (.int lb), .val (.int c0), .val (.int c1), .val (.int bb), .val (.int d0), .val (.int d1), .val (.ref x), .val (.ref y), .val (.ref kx), .val (.ref ky), .val (.ref po), .val (.ref tk), .val (.int r), .val (.int sk), .unset] [(.int la)])) _
      refine XS.iconst X154.here hx rfl (hb hby at_237) ?_
      show Steps p.tables e below (T154.setTop (mkF m 238 #[.val (.int p1), .val (.int p2), .val (.int p3), .val (.int p4), .val (.int p5), .val (.int p6), .val (.int i1), .val (.int i2), .val (.int la), .val (.int lb), .val (.int c0), .val (.int c1), .val (.int bb), .val (.int d0), .val (.int d1), .val (.ref x), .val (.ref y), .val (.ref kx), .val (.ref ky), .val (.ref po), .val (.ref tk), .val (.int r), .val (.int sk), .unset] [(.int (2 : Int32)), (.int la)])) _
      refine XS.icmpNo X154.here hx rfl (hb hby at_238) rfl (flt (h4 : ¬ (la < (2 : Int32)))).1 ?_
      show Steps p.tables e below (T154.setTop (mkF m 241 #[.val (.int p1), .val (.int p2), .val (.int p3), .val (.int p4), .val (.int p5), .val (.int p6), .val (.int i1), .val (.int i2), .val (.int la), .val (.int lb), .val (.int c0), .val (.int c1), .val (.int bb), .val (.int d0), .val (.int d1), .val (.ref x), .val (.ref y), .val (.ref kx), .val (.ref ky), .val (.ref po), .val (.ref tk), .val (.int r), .val (.int sk), .unset] [])) _
      refine XS.iload X154.here hx rfl (hb hby at_241) rfl ?_
      show Steps p.tables e below (T154.setTop (mkF m 243 #[.val (.int p1), .val (.int p2), .val (.int p3), .val (.int p4), .val (.int p5), .val (.int p6), .val (.int i1), .val (.int i2), .val (.int la), .val (.int lb), .val (.int c0), .val (.int c1), .val (.int bb), .val (.int d0), .val (.int d1), .val (.ref x), .val (.ref y), .val (.ref kx), .val (.ref ky), .val (.ref po), .val (.ref tk), .val (.int r), .val (.int sk), .unset] [(.int c1)])) _
      refine XS.iload X154.here hx rfl (hb hby at_243) rfl ?_
      show Steps p.tables e below (T154.setTop (mkF m 245 #[.val (.int p1), .val (.int p2), .val (.int p3), .val (.int p4), .val (.int p5), .val (.int p6), .val (.int i1), .val (.int i2), .val (.int la), .val (.int lb), .val (.int c0), .val (.int c1), .val (.int bb), .val (.int d0), .val (.int d1), .val (.ref x), .val (.ref y), .val (.ref kx), .val (.ref ky), .val (.ref po), .val (.ref tk), .val (.int r), .val (.int sk), .unset] [(.int d1), (.int c1)])) _
      refine XS.icmpYes X154.here hx rfl (pc0 := 245) (pc' := 252) rfl (hb hby at_245) rfl (feq (h5 : ¬ (c1 = d1))).2 (by decide) (by decide) ?_
      show Steps p.tables e below (T154.setTop (mkF m 252 #[.val (.int p1), .val (.int p2), .val (.int p3), .val (.int p4), .val (.int p5), .val (.int p6), .val (.int i1), .val (.int i2), .val (.int la), .val (.int lb), .val (.int c0), .val (.int c1), .val (.int bb), .val (.int d0), .val (.int d1), .val (.ref x), .val (.ref y), .val (.ref kx), .val (.ref ky), .val (.ref po), .val (.ref tk), .val (.int r), .val (.int sk), .unset] [])) _
      refine XS.iconst X154.here hx rfl (hb hby at_252) ?_
      show Steps p.tables e below (T154.setTop (mkF m 253 #[.val (.int p1), .val (.int p2), .val (.int p3), .val (.int p4), .val (.int p5), .val (.int p6), .val (.int i1), .val (.int i2), .val (.int la), .val (.int lb), .val (.int c0), .val (.int c1), .val (.int bb), .val (.int d0), .val (.int d1), .val (.ref x), .val (.ref y), .val (.ref kx), .val (.ref ky), .val (.ref po), .val (.ref tk), .val (.int r), .val (.int sk), .unset] [(.int (0 : Int32))])) _
      exact k
    · skip
      refine ⟨(1 : Int32), Or.inl ⟨⟨h1, Or.inr h3, Or.inr h5⟩, rfl⟩, fun t k => go157 t ?_⟩
      show Steps p.tables e below (T154.setTop (mkF m 219 #[.val (.int p1), .val (.int p2), .val (.int p3), .val (.int p4), .val (.int p5), .val (.int p6), .val (.int i1), .val (.int i2), .val (.int la), .val (.int lb), .val (.int c0), .val (.int c1), .val (.int bb), .val (.int d0), .val (.int d1), .val (.ref x), .val (.ref y), .val (.ref kx), .val (.ref ky), .val (.ref po), .val (.ref tk), .val (.int r), .val (.int sk), .unset] [(.int lb), (.int la)])) _
      refine XS.icmpNo X154.here hx rfl (hb hby at_219) rfl (teq (h1 : la = lb)).2 ?_
      show Steps p.tables e below (T154.setTop (mkF m 222 #[.val (.int p1), .val (.int p2), .val (.int p3), .val (.int p4), .val (.int p5), .val (.int p6), .val (.int i1), .val (.int i2), .val (.int la), .val (.int lb), .val (.int c0), .val (.int c1), .val (.int bb), .val (.int d0), .val (.int d1), .val (.ref x), .val (.ref y), .val (.ref kx), .val (.ref ky), .val (.ref po), .val (.ref tk), .val (.int r), .val (.int sk), .unset] [])) _
      refine XS.iload X154.here hx rfl (hb hby at_222) rfl ?_
      show Steps p.tables e below (T154.setTop (mkF m 224 #[.val (.int p1), .val (.int p2), .val (.int p3), .val (.int p4), .val (.int p5), .val (.int p6), .val (.int i1), .val (.int i2), .val (.int la), .val (.int lb), .val (.int c0), .val (.int c1), .val (.int bb), .val (.int d0), .val (.int d1), .val (.ref x), .val (.ref y), .val (.ref kx), .val (.ref ky), .val (.ref po), .val (.ref tk), .val (.int r), .val (.int sk), .unset] [(.int la)])) _
      refine XS.iconst X154.here hx rfl (hb hby at_224) ?_
      show Steps p.tables e below (T154.setTop (mkF m 225 #[.val (.int p1), .val (.int p2), .val (.int p3), .val (.int p4), .val (.int p5), .val (.int p6), .val (.int i1), .val (.int i2), .val (.int la), .val (.int lb), .val (.int c0), .val (.int c1), .val (.int bb), .val (.int d0), .val (.int d1), .val (.ref x), .val (.ref y), .val (.ref kx), .val (.ref ky), .val (.ref po), .val (.ref tk), .val (.int r), .val (.int sk), .unset] [(.int (1 : Int32)), (.int la)])) _
      refine XS.icmpNo X154.here hx rfl (hb hby at_225) rfl (flt (h2 : ¬ (la < (1 : Int32)))).1 ?_
      show Steps p.tables e below (T154.setTop (mkF m 228 #[.val (.int p1), .val (.int p2), .val (.int p3), .val (.int p4), .val (.int p5), .val (.int p6), .val (.int i1), .val (.int i2), .val (.int la), .val (.int lb), .val (.int c0), .val (.int c1), .val (.int bb), .val (.int d0), .val (.int d1), .val (.ref x), .val (.ref y), .val (.ref kx), .val (.ref ky), .val (.ref po), .val (.ref tk), .val (.int r), .val (.int sk), .unset] [])) _
      refine XS.iload X154.here hx rfl (hb hby at_228) rfl ?_
      show Steps p.tables e below (T154.setTop (mkF m 230 #[.val (.int p1), .val (.int p2), .val (.int p3), .val (.int p4), .val (.int p5), .val (.int p6), .val (.int i1), .val (.int i2), .val (.int la), .val (.int lb), .val (.int c0), .val (.int c1), .val (.int bb), .val (.int d0), .val (.int d1), .val (.ref x), .val (.ref y), .val (.ref kx), .val (.ref ky), .val (.ref po), .val (.ref tk), .val (.int r), .val (.int sk), .unset] [(.int c0)])) _
      refine XS.iload X154.here hx rfl (hb hby at_230) rfl ?_
      show Steps p.tables e below (T154.setTop (mkF m 232 #[.val (.int p1), .val (.int p2), .val (.int p3), .val (.int p4), .val (.int p5), .val (.int p6), .val (.int i1), .val (.int i2), .val (.int la), .val (.int lb), .val (.int c0), .val (.int c1), .val (.int bb), .val (.int d0), .val (.int d1), .val (.ref x), .val (.ref y), .val (.ref kx), .val (.ref ky), .val (.ref po), .val (.ref tk), .val (.int r), .val (.int sk), .unset] [(.int d0), (.int c0)])) _
      refine XS.icmpNo X154.here hx rfl (hb hby at_232) rfl (teq (h3 : c0 = d0)).2 ?_
      show Steps p.tables e below (T154.setTop (mkF m 235 #[.val (.int p1), .val (.int p2), .val (.int p3), .val (.int p4), .val (.int p5), .val (.int p6), .val (.int i1), .val (.int i2), .val (.int la), .val (.int lb), .val (.int c0), .val (.int c1), .val (.int bb), .val (.int d0), .val (.int d1), .val (.ref x), .val (.ref y), .val (.ref kx), .val (.ref ky), .val (.ref po), .val (.ref tk), .val (.int r), .val (.int sk), .unset] [])) _
      refine XS.iload X154.here hx rfl (hb hby at_235) rfl ?_
      show Steps p.tables e below (T154.setTop (mkF m 237 #[.val (.int p1), .val (.int p2), .val (.int p3), .val (.int p4), .val (.int p5), .val (.int p6), .val (.int i1), .val (.int i2), .val (.int la), .val (.int lb), .val (.int c0), .val (.int c1), .val (.int bb), .val (.int d0), .val (.int d1), .val (.ref x), .val (.ref y), .val (.ref kx), .val (.ref ky), .val (.ref po), .val (.ref tk), .val (.int r), .val (.int sk), .unset] [(.int la)])) _
      refine XS.iconst X154.here hx rfl (hb hby at_237) ?_
      show Steps p.tables e below (T154.setTop (mkF m 238 #[.val (.int p1), .val (.int p2), .val (.int p3), .val (.int p4), .val (.int p5), .val (.int p6), .val (.int i1), .val (.int i2), .val (.int la), .val (.int lb), .val (.int c0), .val (.int c1), .val (.int bb), .val (.int d0), .val (.int d1), .val (.ref x), .val (.ref y), .val (.ref kx), .val (.ref ky), .val (.ref po), .val (.ref tk), .val (.int r), .val (.int sk), .unset] [(.int (2 : Int32)), (.int la)])) _
      refine XS.icmpNo X154.here hx rfl (hb hby at_238) rfl (flt (h4 : ¬ (la < (2 : Int32)))).1 ?_
      show Steps p.tables e below (T154.setTop (mkF m 241 #[.val (.int p1), .val (.int p2), .val (.int p3), .val (.int p4), .val (.int p5), .val (.int p6), .val (.int i1), .val (.int i2), .val (.int la), .val (.int lb), .val (.int c0), .val (.int c1), .val (.int bb), .val (.int d0), .val (.int d1), .val (.ref x), .val (.ref y), .val (.ref kx), .val (.ref ky), .val (.ref po), .val (.ref tk), .val (.int r), .val (.int sk), .unset] [])) _
      refine XS.iload X154.here hx rfl (hb hby at_241) rfl ?_
      show Steps p.tables e below (T154.setTop (mkF m 243 #[.val (.int p1), .val (.int p2), .val (.int p3), .val (.int p4), .val (.int p5), .val (.int p6), .val (.int i1), .val (.int i2), .val (.int la), .val (.int lb), .val (.int c0), .val (.int c1), .val (.int bb), .val (.int d0), .val (.int d1), .val (.ref x), .val (.ref y), .val (.ref kx), .val (.ref ky), .val (.ref po), .val (.ref tk), .val (.int r), .val (.int sk), .unset] [(.int c1)])) _
      refine XS.iload X154.here hx rfl (hb hby at_243) rfl ?_
      show Steps p.tables e below (T154.setTop (mkF m 245 #[.val (.int p1), .val (.int p2), .val (.int p3), .val (.int p4), .val (.int p5), .val (.int p6), .val (.int i1), .val (.int i2), .val (.int la), .val (.int lb), .val (.int c0), .val (.int c1), .val (.int bb), .val (.int d0), .val (.int d1), .val (.ref x), .val (.ref y), .val (.ref kx), .val (.ref ky), .val (.ref po), .val (.ref tk), .val (.int r), .val (.int sk), .unset] [(.int d1), (.int c1)])) _
      refine XS.icmpNo X154.here hx rfl (hb hby at_245) rfl (teq (h5 : c1 = d1)).2 ?_
      show Steps p.tables e below (T154.setTop (mkF m 248 #[.val (.int p1), .val (.int p2), .val (.int p3), .val (.int p4), .val (.int p5), .val (.int p6), .val (.int i1), .val (.int i2), .val (.int la), .val (.int lb), .val (.int c0), .val (.int c1), .val (.int bb), .val (.int d0), .val (.int d1), .val (.ref x), .val (.ref y), .val (.ref kx), .val (.ref ky), .val (.ref po), .val (.ref tk), .val (.int r), .val (.int sk), .unset] [])) _
      refine XS.iconst X154.here hx rfl (hb hby at_248) ?_
      show Steps p.tables e below (T154.setTop (mkF m 249 #[.val (.int p1), .val (.int p2), .val (.int p3), .val (.int p4), .val (.int p5), .val (.int p6), .val (.int i1), .val (.int i2), .val (.int la), .val (.int lb), .val (.int c0), .val (.int c1), .val (.int bb), .val (.int d0), .val (.int d1), .val (.ref x), .val (.ref y), .val (.ref kx), .val (.ref ky), .val (.ref po), .val (.ref tk), .val (.int r), .val (.int sk), .unset] [(.int (1 : Int32))])) _
      refine XS.goto X154.here hx rfl (pc0 := 249) (pc' := 253) rfl (hb hby at_249) (by decide) (by decide) ?_
      show Steps p.tables e below (T154.setTop (mkF m 253 #[.val (.int p1), .val (.int p2), .val (.int p3), .val (.int p4), .val (.int p5), .val (.int p6), .val (.int i1), .val (.int i2), .val (.int la), .val (.int lb), .val (.int c0), .val (.int c1), .val (.int bb), .val (.int d0), .val (.int d1), .val (.ref x), .val (.ref y), .val (.ref kx), .val (.ref ky), .val (.ref po), .val (.ref tk), .val (.int r), .val (.int sk), .unset] [(.int (1 : Int32))])) _
      exact k
  have go159 : ∀ t, Steps p.tables e below (T154.setTop (mkF m 259 #[.val (.int p1), .val (.int p2), .val (.int p3), .val (.int p4), .val (.int p5), .val (.int p6), .val (.int i1), .val (.int i2), .val (.int la), .val (.int lb), .val (.int c0), .val (.int c1), .val (.int bb), .val (.int d0), .val (.int d1), .val (.ref x), .val (.ref y), .val (.ref kx), .val (.ref ky), .val (.ref po), .val (.ref tk), .val (.int r), .val (.int sk), .val (.int st)] [(.int sk), (.int r)])) t → Steps p.tables e below (s₁.setTop (entryFrame m #[(.int p1), (.int p2), (.int p3), (.int p4), (.int p5), (.int p6)] maxLocals)) t := fun t k => go158 t (by
      show Steps p.tables e below (T154.setTop (mkF m 253 #[.val (.int p1), .val (.int p2), .val (.int p3), .val (.int p4), .val (.int p5), .val (.int p6), .val (.int i1), .val (.int i2), .val (.int la), .val (.int lb), .val (.int c0), .val (.int c1), .val (.int bb), .val (.int d0), .val (.int d1), .val (.ref x), .val (.ref y), .val (.ref kx), .val (.ref ky), .val (.ref po), .val (.ref tk), .val (.int r), .val (.int sk), .unset] [(.int st)])) _
      refine XS.istore X154.here hx rfl (hb hby at_253) rfl (l' := #[.val (.int p1), .val (.int p2), .val (.int p3), .val (.int p4), .val (.int p5), .val (.int p6), .val (.int i1), .val (.int i2), .val (.int la), .val (.int lb), .val (.int c0), .val (.int c1), .val (.int bb), .val (.int d0), .val (.int d1), .val (.ref x), .val (.ref y), .val (.ref kx), .val (.ref ky), .val (.ref po), .val (.ref tk), .val (.int r), .val (.int sk), .val (.int st)]) rfl ?_
      show Steps p.tables e below (T154.setTop (mkF m 255 #[.val (.int p1), .val (.int p2), .val (.int p3), .val (.int p4), .val (.int p5), .val (.int p6), .val (.int i1), .val (.int i2), .val (.int la), .val (.int lb), .val (.int c0), .val (.int c1), .val (.int bb), .val (.int d0), .val (.int d1), .val (.ref x), .val (.ref y), .val (.ref kx), .val (.ref ky), .val (.ref po), .val (.ref tk), .val (.int r), .val (.int sk), .val (.int st)] [])) _
      refine XS.iload X154.here hx rfl (hb hby at_255) rfl ?_
      show Steps p.tables e below (T154.setTop (mkF m 257 #[.val (.int p1), .val (.int p2), .val (.int p3), .val (.int p4), .val (.int p5), .val (.int p6), .val (.int i1), .val (.int i2), .val (.int la), .val (.int lb), .val (.int c0), .val (.int c1), .val (.int bb), .val (.int d0), .val (.int d1), .val (.ref x), .val (.ref y), .val (.ref kx), .val (.ref ky), .val (.ref po), .val (.ref tk), .val (.int r), .val (.int sk), .val (.int st)] [(.int r)])) _
      refine XS.iload X154.here hx rfl (hb hby at_257) rfl ?_
      exact k)
  obtain ⟨ex, h_ex, go160⟩ : ∃ ex : Int32, (((sk = 0 ∨ st = 0) ∧ ex = 0) ∨ (¬ (sk = 0) ∧ ¬ (st = 0) ∧ ex = 1)) ∧ ∀ t, Steps p.tables e below (T154.setTop (mkF m 272 #[.val (.int p1), .val (.int p2), .val (.int p3), .val (.int p4), .val (.int p5), .val (.int p6), .val (.int i1), .val (.int i2), .val (.int la), .val (.int lb), .val (.int c0), .val (.int c1), .val (.int bb), .val (.int d0), .val (.int d1), .val (.ref x), .val (.ref y), .val (.ref kx), .val (.ref ky), .val (.ref po), .val (.ref tk), .val (.int r), .val (.int sk), .val (.int st)] [(.int ex), (.int r)])) t → Steps p.tables e below (s₁.setTop (entryFrame m #[(.int p1), (.int p2), (.int p3), (.int p4), (.int p5), (.int p6)] maxLocals)) t := by
    rcases own_three (A := sk = 0) (B := st = 0) with hq | ⟨hq, hr⟩ | ⟨hq, hr⟩
    · skip
      refine ⟨0, Or.inl ⟨Or.inl hq, rfl⟩, fun t k => go159 t ?_⟩
      show Steps p.tables e below (T154.setTop (mkF m 259 #[.val (.int p1), .val (.int p2), .val (.int p3), .val (.int p4), .val (.int p5), .val (.int p6), .val (.int i1), .val (.int i2), .val (.int la), .val (.int lb), .val (.int c0), .val (.int c1), .val (.int bb), .val (.int d0), .val (.int d1), .val (.ref x), .val (.ref y), .val (.ref kx), .val (.ref ky), .val (.ref po), .val (.ref tk), .val (.int r), .val (.int sk), .val (.int st)] [(.int sk), (.int r)])) _
      refine XS.ifYes X154.here hx rfl (pc0 := 259) (pc' := 271) rfl (hb hby at_259) rfl ((if0 _ _).trans (teq (hq : sk = (0 : Int32))).1) (by decide) (by decide) ?_
      show Steps p.tables e below (T154.setTop (mkF m 271 #[.val (.int p1), .val (.int p2), .val (.int p3), .val (.int p4), .val (.int p5), .val (.int p6), .val (.int i1), .val (.int i2), .val (.int la), .val (.int lb), .val (.int c0), .val (.int c1), .val (.int bb), .val (.int d0), .val (.int d1), .val (.ref x), .val (.ref y), .val (.ref kx), .val (.ref ky), .val (.ref po), .val (.ref tk), .val (.int r), .val (.int sk), .val (.int st)] [(.int r)])) _
      refine XS.iconst X154.here hx rfl (hb hby at_271) ?_
      show Steps p.tables e below (T154.setTop (mkF m 272 #[.val (.int p1), .val (.int p2), .val (.int p3), .val (.int p4), .val (.int p5), .val (.int p6), .val (.int i1), .val (.int i2), .val (.int la), .val (.int lb), .val (.int c0), .val (.int c1), .val (.int bb), .val (.int d0), .val (.int d1), .val (.ref x), .val (.ref y), .val (.ref kx), .val (.ref ky), .val (.ref po), .val (.ref tk), .val (.int r), .val (.int sk), .val (.int st)] [(.int (0 : Int32)), (.int r)])) _
      exact k
    · skip
      refine ⟨0, Or.inl ⟨Or.inr hr, rfl⟩, fun t k => go159 t ?_⟩
      show Steps p.tables e below (T154.setTop (mkF m 259 #[.val (.int p1), .val (.int p2), .val (.int p3), .val (.int p4), .val (.int p5), .val (.int p6), .val (.int i1), .val (.int i2), .val (.int la), .val (.int lb), .val (.int c0), .val (.int c1), .val (.int bb), .val (.int d0), .val (.int d1), .val (.ref x), .val (.ref y), .val (.ref kx), .val (.ref ky), .val (.ref po), .val (.ref tk), .val (.int r), .val (.int sk), .val (.int st)] [(.int sk), (.int r)])) _
      refine XS.ifNo X154.here hx rfl (hb hby at_259) rfl ((if0 _ _).trans (feq (hq : ¬ (sk = (0 : Int32)))).1) ?_
      show Steps p.tables e below (T154.setTop (mkF m 262 #[.val (.int p1), .val (.int p2), .val (.int p3), .val (.int p4), .val (.int p5), .val (.int p6), .val (.int i1), .val (.int i2), .val (.int la), .val (.int lb), .val (.int c0), .val (.int c1), .val (.int bb), .val (.int d0), .val (.int d1), .val (.ref x), .val (.ref y), .val (.ref kx), .val (.ref ky), .val (.ref po), .val (.ref tk), .val (.int r), .val (.int sk), .val (.int st)] [(.int r)])) _
      refine XS.iload X154.here hx rfl (hb hby at_262) rfl ?_
      show Steps p.tables e below (T154.setTop (mkF m 264 #[.val (.int p1), .val (.int p2), .val (.int p3), .val (.int p4), .val (.int p5), .val (.int p6), .val (.int i1), .val (.int i2), .val (.int la), .val (.int lb), .val (.int c0), .val (.int c1), .val (.int bb), .val (.int d0), .val (.int d1), .val (.ref x), .val (.ref y), .val (.ref kx), .val (.ref ky), .val (.ref po), .val (.ref tk), .val (.int r), .val (.int sk), .val (.int st)] [(.int st), (.int r)])) _
      refine XS.ifYes X154.here hx rfl (pc0 := 264) (pc' := 271) rfl (hb hby at_264) rfl ((if0 _ _).trans (teq (hr : st = (0 : Int32))).1) (by decide) (by decide) ?_
      show Steps p.tables e below (T154.setTop (mkF m 271 #[.val (.int p1), .val (.int p2), .val (.int p3), .val (.int p4), .val (.int p5), .val (.int p6), .val (.int i1), .val (.int i2), .val (.int la), .val (.int lb), .val (.int c0), .val (.int c1), .val (.int bb), .val (.int d0), .val (.int d1), .val (.ref x), .val (.ref y), .val (.ref kx), .val (.ref ky), .val (.ref po), .val (.ref tk), .val (.int r), .val (.int sk), .val (.int st)] [(.int r)])) _
      refine XS.iconst X154.here hx rfl (hb hby at_271) ?_
      show Steps p.tables e below (T154.setTop (mkF m 272 #[.val (.int p1), .val (.int p2), .val (.int p3), .val (.int p4), .val (.int p5), .val (.int p6), .val (.int i1), .val (.int i2), .val (.int la), .val (.int lb), .val (.int c0), .val (.int c1), .val (.int bb), .val (.int d0), .val (.int d1), .val (.ref x), .val (.ref y), .val (.ref kx), .val (.ref ky), .val (.ref po), .val (.ref tk), .val (.int r), .val (.int sk), .val (.int st)] [(.int (0 : Int32)), (.int r)])) _
      exact k
    · skip
      refine ⟨1, Or.inr ⟨hq, hr, rfl⟩, fun t k => go159 t ?_⟩
      show Steps p.tables e below (T154.setTop (mkF m 259 #[.val (.int p1), .val (.int p2), .val (.int p3), .val (.int p4), .val (.int p5), .val (.int p6), .val (.int i1), .val (.int i2), .val (.int la), .val (.int lb), .val (.int c0), .val (.int c1), .val (.int bb), .val (.int d0), .val (.int d1), .val (.ref x), .val (.ref y), .val (.ref kx), .val (.ref ky), .val (.ref po), .val (.ref tk), .val (.int r), .val (.int sk), .val (.int st)] [(.int sk), (.int r)])) _
      refine XS.ifNo X154.here hx rfl (hb hby at_259) rfl ((if0 _ _).trans (feq (hq : ¬ (sk = (0 : Int32)))).1) ?_
      show Steps p.tables e below (T154.setTop (mkF m 262 #[.val (.int p1), .val (.int p2), .val (.int p3), .val (.int p4), .val (.int p5), .val (.int p6), .val (.int i1), .val (.int i2), .val (.int la), .val (.int lb), .val (.int c0), .val (.int c1), .val (.int bb), .val (.int d0), .val (.int d1), .val (.ref x), .val (.ref y), .val (.ref kx), .val (.ref ky), .val (.ref po), .val (.ref tk), .val (.int r), .val (.int sk), .val (.int st)] [(.int r)])) _
      refine XS.iload X154.here hx rfl (hb hby at_262) rfl ?_
      show Steps p.tables e below (T154.setTop (mkF m 264 #[.val (.int p1), .val (.int p2), .val (.int p3), .val (.int p4), .val (.int p5), .val (.int p6), .val (.int i1), .val (.int i2), .val (.int la), .val (.int lb), .val (.int c0), .val (.int c1), .val (.int bb), .val (.int d0), .val (.int d1), .val (.ref x), .val (.ref y), .val (.ref kx), .val (.ref ky), .val (.ref po), .val (.ref tk), .val (.int r), .val (.int sk), .val (.int st)] [(.int st), (.int r)])) _
      refine XS.ifNo X154.here hx rfl (hb hby at_264) rfl ((if0 _ _).trans (feq (hr : ¬ (st = (0 : Int32)))).1) ?_
      show Steps p.tables e below (T154.setTop (mkF m 267 #[.val (.int p1), .val (.int p2), .val (.int p3), .val (.int p4), .val (.int p5), .val (.int p6), .val (.int i1), .val (.int i2), .val (.int la), .val (.int lb), .val (.int c0), .val (.int c1), .val (.int bb), .val (.int d0), .val (.int d1), .val (.ref x), .val (.ref y), .val (.ref kx), .val (.ref ky), .val (.ref po), .val (.ref tk), .val (.int r), .val (.int sk), .val (.int st)] [(.int r)])) _
      refine XS.iconst X154.here hx rfl (hb hby at_267) ?_
      show Steps p.tables e below (T154.setTop (mkF m 268 #[.val (.int p1), .val (.int p2), .val (.int p3), .val (.int p4), .val (.int p5), .val (.int p6), .val (.int i1), .val (.int i2), .val (.int la), .val (.int lb), .val (.int c0), .val (.int c1), .val (.int bb), .val (.int d0), .val (.int d1), .val (.ref x), .val (.ref y), .val (.ref kx), .val (.ref ky), .val (.ref po), .val (.ref tk), .val (.int r), .val (.int sk), .val (.int st)] [(.int (1 : Int32)), (.int r)])) _
      refine XS.goto X154.here hx rfl (pc0 := 268) (pc' := 272) rfl (hb hby at_268) (by decide) (by decide) ?_
      show Steps p.tables e below (T154.setTop (mkF m 272 #[.val (.int p1), .val (.int p2), .val (.int p3), .val (.int p4), .val (.int p5), .val (.int p6), .val (.int i1), .val (.int i2), .val (.int la), .val (.int lb), .val (.int c0), .val (.int c1), .val (.int bb), .val (.int d0), .val (.int d1), .val (.ref x), .val (.ref y), .val (.ref kx), .val (.ref ky), .val (.ref po), .val (.ref tk), .val (.int r), .val (.int sk), .val (.int st)] [(.int (1 : Int32)), (.int r)])) _
      exact k
  have r2' : 0 ≤ i2.toInt ∧ i2.toInt < 17 := r2.elim (fun h => h ▸ r1) id
  have hkk : kx = ky ↔ i1 = i2 := by
    rw [← hkx, ← hky]
    exact own_kd_inj (own_kd_ord i1 w0 w1 w2 w3 w4 w5 w6 w7 w8 w9 w10 w11 w12 w13 w14 w15 w16 r1.1 r1.2 F0 F1 F2 F3 F4 F5 F6 F7 F8 F9 F10 F11 F12 F13 F14 F15 F16) (own_kd_ord i2 w0 w1 w2 w3 w4 w5 w6 w7 w8 w9 w10 w11 w12 w13 w14 w15 w16 r2'.1 r2'.2 F0 F1 F2 F3 F4 F5 F6 F7 F8 F9 F10 F11 F12 F13 F14 F15 F16) (fun h => by rw [h])
  have hre : r = ex := own_plain hkk (own_cl_eq rc0.2.2 rc1.2.2 rd0.2.2 rd1.2.2 rla (h_lb.elim (fun h => h ▸ rla) id)) hr1 h_sk h_st h_ex
  have HK_161 := (Nat.le_trans (Nat.le_trans (Nat.le_trans (Nat.le_trans hk118 K126.1) K131.1) K133.1) K143.1)
  obtain ⟨fs, hr, hrun, hended, hRE⟩ := X154.leaveW hS118 (by rw [e154]; exact HK_161) (v := some (.int (1 : Int32))) (fun h => by rw [Bd.returns] at h; cases h)
  refine ⟨_, _, go160 _ ?_, hrun, hended, _, _, rfl, ?_, ?_, hRE.1, hRE.2.1, hRE.2.2.1, hRE.2.2.2.mono (by decide) (by decide)⟩
  · show Steps p.tables e below (T154.setTop (mkF m 272 #[.val (.int p1), .val (.int p2), .val (.int p3), .val (.int p4), .val (.int p5), .val (.int p6), .val (.int i1), .val (.int i2), .val (.int la), .val (.int lb), .val (.int c0), .val (.int c1), .val (.int bb), .val (.int d0), .val (.int d1), .val (.ref x), .val (.ref y), .val (.ref kx), .val (.ref ky), .val (.ref po), .val (.ref tk), .val (.int r), .val (.int sk), .val (.int st)] [(.int ex), (.int r)])) _
    refine XS.icmpNo X154.here hx rfl (hb hby at_272) rfl (teq (hre : r = ex)).2 ?_
    show Steps p.tables e below (T154.setTop (mkF m 275 #[.val (.int p1), .val (.int p2), .val (.int p3), .val (.int p4), .val (.int p5), .val (.int p6), .val (.int i1), .val (.int i2), .val (.int la), .val (.int lb), .val (.int c0), .val (.int c1), .val (.int bb), .val (.int d0), .val (.int d1), .val (.ref x), .val (.ref y), .val (.ref kx), .val (.ref ky), .val (.ref po), .val (.ref tk), .val (.int r), .val (.int sk), .val (.int st)] [])) _
    refine XS.iconst X154.here hx rfl (hb hby at_275) ?_
    show Steps p.tables e below (T154.setTop (mkF m 276 #[.val (.int p1), .val (.int p2), .val (.int p3), .val (.int p4), .val (.int p5), .val (.int p6), .val (.int i1), .val (.int i2), .val (.int la), .val (.int lb), .val (.int c0), .val (.int c1), .val (.int bb), .val (.int d0), .val (.int d1), .val (.ref x), .val (.ref y), .val (.ref kx), .val (.ref ky), .val (.ref po), .val (.ref tk), .val (.int r), .val (.int sk), .val (.int st)] [(.int (1 : Int32))])) _
    refine XS.goto X154.here hx rfl (pc0 := 276) (pc' := 280) rfl (hb hby at_276) (by decide) (by decide) ?_
    show Steps p.tables e below (T154.setTop (mkF m 280 #[.val (.int p1), .val (.int p2), .val (.int p3), .val (.int p4), .val (.int p5), .val (.int p6), .val (.int i1), .val (.int i2), .val (.int la), .val (.int lb), .val (.int c0), .val (.int c1), .val (.int bb), .val (.int d0), .val (.int d1), .val (.ref x), .val (.ref y), .val (.ref kx), .val (.ref ky), .val (.ref po), .val (.ref tk), .val (.int r), .val (.int sk), .val (.int st)] [(.int (1 : Int32))])) _
    exact retN X154 hx (t := .boolean) Bd.returns (by simp) (hb hby at_280) hr
  · show Q0 h0 n0 _ T154.heap _
    rw [e154]
    exact ⟨rfl, N154⟩
  · show CHr Z own_EL s.vm s.heap T154.vm T154.heap
    rw [hh, e154]
    exact R144.trans (CHv.at X154 hZ hEL R144.1)
set_option maxRecDepth 65536 in
set_option maxHeartbeats 40000000 in
theorem comes_1 {Post : Tables → Env → Array Value → State → Outcome → State → Prop} (hpost : ∀ tb e args s v u, (limb_1_1.after args s (.returned v) u = true ∧ limb_1_2.after args s (.returned v) u = true ∧ True) → ReturnedEndW s (.returned v) u (Jvm.fieldLocs frame_1_writes args s ++ Jvm.arrayLocs frame_1_arrays args s ++ Jvm.staticLocs frame_1_statics s) 32 1152 → Post tb e args s (.returned v) u) :
    ArmFor flags0 classFile x code maxLocals ret World_1 tables_1 room_1 Calls_1 rest_1 Pre_1 Post := by
  intro l hfl _ _ p e ha hc hk s m args below hf hA hF happ hP
  obtain ⟨hcalls, hrest, hpre⟩ := hP
  obtain ⟨-, -, -, hnamed, -, -, -, hat⟩ := (Spec.applies_iff hf).mp happ
  obtain ⟨hg, hn⟩ := and_e (Cond.before_iff.mp (show (Jvm.Cond.and given_1 narrow_1).before args s = true from hpre))
  obtain ⟨c1a, c1b⟩ := and_e hg
  obtain ⟨c2a, c2b⟩ := and_e c1b
  obtain ⟨c3a, c3b⟩ := and_e c2b
  obtain ⟨c4a, c4b⟩ := and_e c3b
  obtain ⟨c5a, c5b⟩ := and_e c4b
  obtain ⟨c6a, c6b⟩ := and_e c5b
  obtain ⟨c7a, c7b⟩ := and_e hn
  obtain ⟨c8a, c8b⟩ := and_e c7b
  obtain ⟨c9a, c9b⟩ := and_e c8b
  obtain ⟨c10a, c10b⟩ := and_e c9b
  obtain ⟨c11a, c11b⟩ := and_e c10b
  obtain ⟨c12a, c12b⟩ := and_e c11b
  obtain ⟨c13a, c13b⟩ := and_e c12b
  obtain ⟨c14a, c14b⟩ := and_e c13b
  obtain ⟨c15a, c15b⟩ := and_e c14b
  obtain ⟨c16a, c16b⟩ := and_e c15b
  obtain ⟨c17a, c17b⟩ := and_e c16b
  obtain ⟨c18a, c18b⟩ := and_e c17b
  obtain ⟨c19a, c19b⟩ := and_e c18b
  obtain ⟨c20a, c20b⟩ := and_e c19b
  obtain ⟨c21a, c21b⟩ := and_e c20b
  obtain ⟨c22a, c22b⟩ := and_e c21b
  obtain ⟨c23a, c23b⟩ := and_e c22b
  obtain ⟨c24a, c24b⟩ := and_e c23b
  obtain ⟨c25a, c25b⟩ := and_e c24b
  obtain ⟨c26a, c26b⟩ := and_e c25b
  obtain ⟨c27a, c27b⟩ := and_e c26b
  obtain ⟨c28a, c28b⟩ := and_e c27b
  obtain ⟨c29a, c29b⟩ := and_e c28b
  obtain ⟨c30a, c30b⟩ := and_e c29b
  obtain ⟨c31a, c31b⟩ := and_e c30b
  obtain ⟨c32a, c32b⟩ := and_e c31b
  obtain ⟨c33a, c33b⟩ := and_e c32b
  obtain ⟨c34a, c34b⟩ := and_e c33b
  obtain ⟨c35a, c35b⟩ := and_e c34b
  obtain ⟨c36a, c36b⟩ := and_e c35b
  obtain ⟨c37a, c37b⟩ := and_e c36b
  obtain ⟨c38a, c38b⟩ := and_e c37b
  obtain ⟨c39a, c39b⟩ := and_e c38b
  obtain ⟨w0, w1, w2, w3, w4, w5, rfl⟩ : ∃ w0 w1 w2 w3 w4 w5 : Value, args = #[w0, w1, w2, w3, w4, w5] := by
    have hs : args.size = 6 := by simpa [Cond.value, given_1] using c1a
    obtain ⟨L⟩ := args
    match L, hs with
    | [w0, w1, w2, w3, w4, w5], _ => exact ⟨w0, w1, w2, w3, w4, w5, rfl⟩
  have hw := fun d (hd : d ∈ tables_1) => atoms_spec (ws := Jvm.Cond.code x code maxLocals ret :: tables_1) hat d (List.mem_cons_of_mem _ hd)
  have hfit : Fit s := fun {y c} hc i hi => by
    obtain ⟨ha, rfl⟩ := Array.getElem?_eq_some_iff.mp hc
    have q := List.all_eq_true.mp ((Array.all_eq_true_iff_forall_mem.mp hF) _ (Array.getElem_mem ha)) i (List.mem_range.mpr hi)
    simpa [Array.getElem?_eq_getElem hi] using q
  obtain ⟨hsets, hown0⟩ := atoms_of _ (rest_1_c_eq ▸ (show rest_1_c.before _ s = true from hrest))
  have n_cs := not_v (Cond.before_iff.mp (hsets _ (List.mem_of_getElem? (i := 2) rfl)))
  obtain ⟨i_cs, e_cs⟩ := is_v (Cond.before_iff.mp (hsets _ (List.mem_of_getElem? (i := 1) rfl)))
  have S_cs : Sta s s.heap "java/lang/String" "COMPACT_STRINGS" "Z" (.int i_cs) := Sta.start e_cs (Or.inl (hsets _ (List.mem_of_getElem? (i := 0) rfl)))
  have c_cs : ¬ (i_cs = (0 : Int32)) := gotF (Cond.eq_ints e_cs (Term.int_eval (0))) n_cs
  obtain ⟨v_sf, e_sf, r_sf⟩ := isR_v (Cond.before_iff.mp (hsets _ (List.mem_of_getElem? (i := 8) rfl)))
  have S_sf : Sta s s.heap "jdk/internal/util/Preconditions" "SIOOBE_FORMATTER" "Ljava/util/function/BiFunction;" v_sf := Sta.start e_sf (Or.inl (hsets _ (List.mem_of_getElem? (i := 7) rfl)))
  obtain ⟨i0, ei0⟩ := is_v c2a
  obtain rfl : w0 = (.int i0) := Option.some.inj ei0
  obtain ⟨i1, ei1⟩ := is_v c3a
  obtain rfl : w1 = (.int i1) := Option.some.inj ei1
  obtain ⟨i2, ei2⟩ := is_v c4a
  obtain rfl : w2 = (.int i2) := Option.some.inj ei2
  obtain ⟨i3, ei3⟩ := is_v c5a
  obtain rfl : w3 = (.int i3) := Option.some.inj ei3
  obtain ⟨i4, ei4⟩ := is_v c6a
  obtain rfl : w4 = (.int i4) := Option.some.inj ei4
  obtain ⟨i5, ei5⟩ := is_v c6b
  obtain rfl : w5 = (.int i5) := Option.some.inj ei5
  obtain ⟨a_IDENTIFIER, ea_IDENTIFIER⟩ := exa_v c7a
  have S_IDENTIFIER : Sta s s.heap "com/example/tramway/tramway/idl/Token$Kind" "IDENTIFIER" "Lcom/example/tramway/tramway/idl/Token$Kind;" (.ref a_IDENTIFIER) := Sta.start ea_IDENTIFIER (Or.inr ⟨(hw _ (List.mem_of_getElem? (i := 31) rfl)), (hw _ (List.mem_of_getElem? (i := 32) rfl))⟩)
  obtain ⟨a_INTEGER, ea_INTEGER⟩ := exa_v c29a
  have S_INTEGER : Sta s s.heap "com/example/tramway/tramway/idl/Token$Kind" "INTEGER" "Lcom/example/tramway/tramway/idl/Token$Kind;" (.ref a_INTEGER) := Sta.start ea_INTEGER (Or.inr ⟨(hw _ (List.mem_of_getElem? (i := 31) rfl)), (hw _ (List.mem_of_getElem? (i := 115) rfl))⟩)
  obtain ⟨a_FLOATING, ea_FLOATING⟩ := exa_v c10a
  have S_FLOATING : Sta s s.heap "com/example/tramway/tramway/idl/Token$Kind" "FLOATING" "Lcom/example/tramway/tramway/idl/Token$Kind;" (.ref a_FLOATING) := Sta.start ea_FLOATING (Or.inr ⟨(hw _ (List.mem_of_getElem? (i := 31) rfl)), (hw _ (List.mem_of_getElem? (i := 95) rfl))⟩)
  obtain ⟨a_CHARACTER, ea_CHARACTER⟩ := exa_v c22a
  have S_CHARACTER : Sta s s.heap "com/example/tramway/tramway/idl/Token$Kind" "CHARACTER" "Lcom/example/tramway/tramway/idl/Token$Kind;" (.ref a_CHARACTER) := Sta.start ea_CHARACTER (Or.inr ⟨(hw _ (List.mem_of_getElem? (i := 31) rfl)), (hw _ (List.mem_of_getElem? (i := 109) rfl))⟩)
  obtain ⟨a_WIDE_CHARACTER, ea_WIDE_CHARACTER⟩ := exa_v c8a
  have S_WIDE_CHARACTER : Sta s s.heap "com/example/tramway/tramway/idl/Token$Kind" "WIDE_CHARACTER" "Lcom/example/tramway/tramway/idl/Token$Kind;" (.ref a_WIDE_CHARACTER) := Sta.start ea_WIDE_CHARACTER (Or.inr ⟨(hw _ (List.mem_of_getElem? (i := 31) rfl)), (hw _ (List.mem_of_getElem? (i := 91) rfl))⟩)
  obtain ⟨a_STRING, ea_STRING⟩ := exa_v c23a
  have S_STRING : Sta s s.heap "com/example/tramway/tramway/idl/Token$Kind" "STRING" "Lcom/example/tramway/tramway/idl/Token$Kind;" (.ref a_STRING) := Sta.start ea_STRING (Or.inr ⟨(hw _ (List.mem_of_getElem? (i := 31) rfl)), (hw _ (List.mem_of_getElem? (i := 111) rfl))⟩)
  obtain ⟨a_WIDE_STRING, ea_WIDE_STRING⟩ := exa_v c14a
  have S_WIDE_STRING : Sta s s.heap "com/example/tramway/tramway/idl/Token$Kind" "WIDE_STRING" "Lcom/example/tramway/tramway/idl/Token$Kind;" (.ref a_WIDE_STRING) := Sta.start ea_WIDE_STRING (Or.inr ⟨(hw _ (List.mem_of_getElem? (i := 31) rfl)), (hw _ (List.mem_of_getElem? (i := 99) rfl))⟩)
  obtain ⟨a_PUNCTUATOR, ea_PUNCTUATOR⟩ := exa_v c37a
  have S_PUNCTUATOR : Sta s s.heap "com/example/tramway/tramway/idl/Token$Kind" "PUNCTUATOR" "Lcom/example/tramway/tramway/idl/Token$Kind;" (.ref a_PUNCTUATOR) := Sta.start ea_PUNCTUATOR (Or.inr ⟨(hw _ (List.mem_of_getElem? (i := 31) rfl)), (hw _ (List.mem_of_getElem? (i := 121) rfl))⟩)
  obtain ⟨a_NEWLINE, ea_NEWLINE⟩ := exa_v c9a
  have S_NEWLINE : Sta s s.heap "com/example/tramway/tramway/idl/Token$Kind" "NEWLINE" "Lcom/example/tramway/tramway/idl/Token$Kind;" (.ref a_NEWLINE) := Sta.start ea_NEWLINE (Or.inr ⟨(hw _ (List.mem_of_getElem? (i := 31) rfl)), (hw _ (List.mem_of_getElem? (i := 93) rfl))⟩)
  obtain ⟨a_ERROR, ea_ERROR⟩ := exa_v c25a
  have S_ERROR : Sta s s.heap "com/example/tramway/tramway/idl/Token$Kind" "ERROR" "Lcom/example/tramway/tramway/idl/Token$Kind;" (.ref a_ERROR) := Sta.start ea_ERROR (Or.inr ⟨(hw _ (List.mem_of_getElem? (i := 31) rfl)), (hw _ (List.mem_of_getElem? (i := 113) rfl))⟩)
  obtain ⟨a_FILE_START, ea_FILE_START⟩ := exa_v c20a
  have S_FILE_START : Sta s s.heap "com/example/tramway/tramway/idl/Token$Kind" "FILE_START" "Lcom/example/tramway/tramway/idl/Token$Kind;" (.ref a_FILE_START) := Sta.start ea_FILE_START (Or.inr ⟨(hw _ (List.mem_of_getElem? (i := 31) rfl)), (hw _ (List.mem_of_getElem? (i := 107) rfl))⟩)
  obtain ⟨a_FILE_END, ea_FILE_END⟩ := exa_v c34a
  have S_FILE_END : Sta s s.heap "com/example/tramway/tramway/idl/Token$Kind" "FILE_END" "Lcom/example/tramway/tramway/idl/Token$Kind;" (.ref a_FILE_END) := Sta.start ea_FILE_END (Or.inr ⟨(hw _ (List.mem_of_getElem? (i := 31) rfl)), (hw _ (List.mem_of_getElem? (i := 119) rfl))⟩)
  obtain ⟨a_PREFIX, ea_PREFIX⟩ := exa_v c18a
  have S_PREFIX : Sta s s.heap "com/example/tramway/tramway/idl/Token$Kind" "PREFIX" "Lcom/example/tramway/tramway/idl/Token$Kind;" (.ref a_PREFIX) := Sta.start ea_PREFIX (Or.inr ⟨(hw _ (List.mem_of_getElem? (i := 31) rfl)), (hw _ (List.mem_of_getElem? (i := 103) rfl))⟩)
  obtain ⟨a_PRAGMA_ID, ea_PRAGMA_ID⟩ := exa_v c13a
  have S_PRAGMA_ID : Sta s s.heap "com/example/tramway/tramway/idl/Token$Kind" "PRAGMA_ID" "Lcom/example/tramway/tramway/idl/Token$Kind;" (.ref a_PRAGMA_ID) := Sta.start ea_PRAGMA_ID (Or.inr ⟨(hw _ (List.mem_of_getElem? (i := 31) rfl)), (hw _ (List.mem_of_getElem? (i := 97) rfl))⟩)
  obtain ⟨a_PRAGMA_VERSION, ea_PRAGMA_VERSION⟩ := exa_v c17a
  have S_PRAGMA_VERSION : Sta s s.heap "com/example/tramway/tramway/idl/Token$Kind" "PRAGMA_VERSION" "Lcom/example/tramway/tramway/idl/Token$Kind;" (.ref a_PRAGMA_VERSION) := Sta.start ea_PRAGMA_VERSION (Or.inr ⟨(hw _ (List.mem_of_getElem? (i := 31) rfl)), (hw _ (List.mem_of_getElem? (i := 101) rfl))⟩)
  obtain ⟨a_PRAGMA_END, ea_PRAGMA_END⟩ := exa_v c31a
  have S_PRAGMA_END : Sta s s.heap "com/example/tramway/tramway/idl/Token$Kind" "PRAGMA_END" "Lcom/example/tramway/tramway/idl/Token$Kind;" (.ref a_PRAGMA_END) := Sta.start ea_PRAGMA_END (Or.inr ⟨(hw _ (List.mem_of_getElem? (i := 31) rfl)), (hw _ (List.mem_of_getElem? (i := 117) rfl))⟩)
  obtain ⟨a_END_OF_INPUT, ea_END_OF_INPUT⟩ := exa_v c19a
  have S_END_OF_INPUT : Sta s s.heap "com/example/tramway/tramway/idl/Token$Kind" "END_OF_INPUT" "Lcom/example/tramway/tramway/idl/Token$Kind;" (.ref a_END_OF_INPUT) := Sta.start ea_END_OF_INPUT (Or.inr ⟨(hw _ (List.mem_of_getElem? (i := 31) rfl)), (hw _ (List.mem_of_getElem? (i := 105) rfl))⟩)
  have F_IDENTIFIER := own_ord ea_IDENTIFIER c11a
  have F_INTEGER := own_ord ea_INTEGER c30a
  have F_FLOATING := own_ord ea_FLOATING c12a
  have F_CHARACTER := own_ord ea_CHARACTER c27a
  have F_WIDE_CHARACTER := own_ord ea_WIDE_CHARACTER c36a
  have F_STRING := own_ord ea_STRING c24a
  have F_WIDE_STRING := own_ord ea_WIDE_STRING c16a
  have F_PUNCTUATOR := own_ord ea_PUNCTUATOR c38a
  have F_NEWLINE := own_ord ea_NEWLINE c28a
  have F_ERROR := own_ord ea_ERROR c26a
  have F_FILE_START := own_ord ea_FILE_START c21a
  have F_FILE_END := own_ord ea_FILE_END c35a
  have F_PREFIX := own_ord ea_PREFIX c33a
  have F_PRAGMA_ID := own_ord ea_PRAGMA_ID c15a
  have F_PRAGMA_VERSION := own_ord ea_PRAGMA_VERSION c39b
  have F_PRAGMA_END := own_ord ea_PRAGMA_END c32a
  have F_END_OF_INPUT := own_ord ea_END_OF_INPUT c39a
  have hH : CHv s own_EL s.vm s.heap := CHv.start (own_hEL hw) (fun p hp => hcalls.1 p hp) (hsets _ (List.mem_of_getElem? (i := 2) rfl)) (hw _ (List.mem_of_getElem? (i := 20) rfl)) (hw _ (List.mem_of_getElem? (i := 6) rfl))
  obtain ⟨n, o, h1, h2, h3, _, L, rfl, ⟨rfl, N⟩, hC, hq⟩ := rm0 l s _ hw tables_1 i0 i1 i2 i3 i4 i5 i_cs a_IDENTIFIER a_INTEGER a_FLOATING a_CHARACTER a_WIDE_CHARACTER a_STRING a_WIDE_STRING a_PUNCTUATOR a_NEWLINE a_ERROR a_FILE_START a_FILE_END a_PREFIX a_PRAGMA_ID a_PRAGMA_VERSION a_PRAGMA_END a_END_OF_INPUT s.heap s.heap.size (Nat.le_refl _) S_cs c_cs (Old.start s) S_IDENTIFIER S_INTEGER S_FLOATING S_CHARACTER S_WIDE_CHARACTER S_STRING S_WIDE_STRING S_PUNCTUATOR S_NEWLINE S_ERROR S_FILE_START S_FILE_END S_PREFIX S_PRAGMA_ID S_PRAGMA_VERSION S_PRAGMA_END S_END_OF_INPUT F_IDENTIFIER F_INTEGER F_FLOATING F_CHARACTER F_WIDE_CHARACTER F_STRING F_WIDE_STRING F_PUNCTUATOR F_NEWLINE F_ERROR F_FILE_START F_FILE_END F_PREFIX F_PRAGMA_ID F_PRAGMA_VERSION F_PRAGMA_END F_END_OF_INPUT p e ha hc hk s m _ below hf ((Spec.applies_iff_loose hf).mp happ).1 ⟨rfl, State.Warmed39.refl s, rfl, hH⟩ trivial
  refine ⟨n, _, h1, h2, h3, hpost _ _ _ _ _ _ ⟨Cond.after_iff.mpr rfl, Cond.after_iff.mpr (eq_i res_at (Term.int_eval (1)) rfl), trivial⟩ ⟨hq.1, hq.2.1, hq.2.2.1, (hq.2.2.2.sift fun y hy => Or.inr (N y hy)).mono (by decide) (by decide)⟩⟩
theorem main_1_1 : Claimed_1_1 := comes_1 fun _ _ _ _ _ _ h hF => ⟨h.1, hF⟩
theorem main_1_2 : Claimed_1_2 := comes_1 fun _ _ _ _ _ _ h hF => ⟨h.2.1, hF⟩
end Jvm.Pilot.@@N@@
namespace Jvm.Pilot.@@N@@
open Jvm Jvm.ClassFile Sem Op Lib Jvm.Free Jvm.Stand Jvm.Pilot.@@N@@.Jvm.D
/-! MADE BY PROGRAM (witnessworld.py) out of the Statement's table words and the real class files: 24 classes; the members and pool entries that the words name. The judged class is class 1, her method 3. -/
namespace start1
open Jvm.ClassFile
def u (s : String) : CpInfo := .utf8 (stringToUtf16 s)
/-- a pool by its gaps: so many unusable entries, then the entry; so many at the end -/
def gap : Nat → List CpInfo → List CpInfo
  | 0, r => r
  | n + 1, r => .unusable :: gap n r
def poolList (es : List (Nat × CpInfo)) (last : Nat) : List CpInfo := es.foldr (fun e r => gap e.1 (e.2 :: r)) (gap last [])
def pool (es : List (Nat × CpInfo)) (last : Nat) : Array CpInfo := ⟨poolList es last⟩
def fileOf (pool : Array CpInfo) (this : Nat) (attrs : Array Attribute := #[]) (ms : Array MethodInfo := #[]) (fl : Nat := 33) (sup : Nat := 0) (ifs : Array Nat := #[]) (fds : Array FieldInfo := #[]) : ClassFile where
  minorVersion := 0
  majorVersion := 65
  constantPool := pool
  accessFlags := fl
  thisClass := this
  superClass := sup
  interfaces := ifs
  fields := fds
  methods := ms
  attributes := attrs
def plain (name : String) (sup : Option ClassId) : Class where
  name := name
  kind := .ordinary
  loader := none
  accessFlags := 33
  super := sup
  interfaces := #[]
  cf := none
  fields := #[]
  methods := #[]
  instanceTypes := #[]
  staticTypes := #[]
  resolved := #[]
  callSites := []
  init := .initialized
  statics := none
  mirror := none

def pool0 : Array CpInfo := pool [(5, u "<init>"), (0, u "()V"), (1, .class_ 10), (1, u "java/lang/Object")] 113

def k0c0 : Code := { maxStack := 0, maxLocals := 1, code := object_method_1_code, exceptionTable := #[], attributes := #[] }
def k0m0 : Method := { name := "<init>", desc := "()V", sig := { parameters := [], returnType := none }, accessFlags := 1, code := some k0c0 }
/-- java/lang/Object -/
def k0 : Class := { plain "java/lang/Object" none with
  accessFlags := 33
  interfaces := #[]
  cf := some (fileOf pool0 8 #[] #[{ accessFlags := 1, nameIndex := 5, descriptorIndex := 6, attributes := #[] }] 33 0 #[] #[])
  fields := #[]
  methods := #[k0m0]
  instanceTypes := #[]
  staticTypes := #[]
  resolved := Array.replicate 124 none
  statics := none }

def pool1 : Array CpInfo := pool [(2, .class_ 4), (1, u "java/lang/Object"), (0, u "<init>"), (0, u "()V"), (0, .fieldref 8 9), (0, .class_ 10), (0, .nameAndType 11 12), (0, u "com/example/tramway/tramway/idl/Token$Kind"), (0, u "IDENTIFIER"), (0, u "Lcom/example/tramway/tramway/idl/Token$Kind;"), (0, .fieldref 8 14), (0, .nameAndType 15 12), (0, u "INTEGER"), (0, .fieldref 8 17), (0, .nameAndType 18 12), (0, u "FLOATING"), (0, .fieldref 8 20), (0, .nameAndType 21 12), (0, u "CHARACTER"), (0, .fieldref 8 23), (0, .nameAndType 24 12), (0, u "WIDE_CHARACTER"), (0, .fieldref 8 26), (0, .nameAndType 27 12), (0, u "STRING"), (0, .fieldref 8 29), (0, .nameAndType 30 12), (0, u "WIDE_STRING"), (0, .fieldref 8 32), (0, .nameAndType 33 12), (0, u "PUNCTUATOR"), (0, .fieldref 8 35), (0, .nameAndType 36 12), (0, u "NEWLINE"), (0, .fieldref 8 38), (0, .nameAndType 39 12), (0, u "ERROR"), (0, .fieldref 8 41), (0, .nameAndType 42 12), (0, u "FILE_START"), (0, .fieldref 8 44), (0, .nameAndType 45 12), (0, u "FILE_END"), (0, .fieldref 8 47), (0, .nameAndType 48 12), (0, u "PREFIX"), (0, .fieldref 8 50), (0, .nameAndType 51 12), (0, u "PRAGMA_ID"), (0, .fieldref 8 53), (0, .nameAndType 54 12), (0, u "PRAGMA_VERSION"), (0, .fieldref 8 56), (0, .nameAndType 57 12), (0, u "PRAGMA_END"), (0, .fieldref 8 59), (0, .nameAndType 60 12), (0, u "END_OF_INPUT"), (0, .class_ 62), (0, u "java/lang/String"), (0, .methodref 61 64), (0, .nameAndType 5 65), (0, u "([C)V"), (0, .integer 2147483647), (0, .methodref 68 69), (0, .class_ 70), (0, .nameAndType 71 72), (0, u "com/example/tramway/tramway/idl/TokenIsPinLaw"), (0, u "text"), (0, u "(ICC)Ljava/lang/String;"), (0, .methodref 68 74), (0, .nameAndType 75 76), (0, u "kind"), (0, u "(I)Lcom/example/tramway/tramway/idl/Token$Kind;"), (0, .class_ 78), (0, u "com/example/tramway/tramway/idl/Position"), (0, .methodref 77 80), (0, .nameAndType 5 81), (0, u "(Ljava/lang/String;I)V"), (0, .class_ 83), (0, u "com/example/tramway/tramway/idl/Token"), (0, .methodref 82 85), (0, .nameAndType 5 86), (0, u "(Lcom/example/tramway/tramway/idl/Token$Kind;Ljava/lang/String;Lcom/example/tramway/tramway/idl/Position;Z)V"), (0, .methodref 82 88), (0, .nameAndType 89 90), (0, u "is"), (0, u "(Lcom/example/tramway/tramway/idl/Token$Kind;Ljava/lang/String;)Z"), (3, u "law"), (0, u "(IIIIII)Z")] 4

def k1m0 : Method := { name := "<init>", desc := "()V", sig := { parameters := [], returnType := none }, accessFlags := 1, code := none }
def k1c1 : Code := { maxStack := 2, maxLocals := 1, code := method_2_code, exceptionTable := #[], attributes := #[] }
def k1m1 : Method := { name := "kind", desc := "(I)Lcom/example/tramway/tramway/idl/Token$Kind;", sig := { parameters := [.int], returnType := some (.object "com/example/tramway/tramway/idl/Token$Kind") }, accessFlags := 10, code := some k1c1 }
def k1c2 : Code := { maxStack := 6, maxLocals := 3, code := method_3_code, exceptionTable := #[], attributes := #[] }
def k1m2 : Method := { name := "text", desc := "(ICC)Ljava/lang/String;", sig := { parameters := [.int, .char, .char], returnType := some (.object "java/lang/String") }, accessFlags := 10, code := some k1c2 }
def k1c3 : Code := { maxStack := 7, maxLocals := 24, code := code, exceptionTable := #[], attributes := #[] }
def k1m3 : Method := { name := "law", desc := "(IIIIII)Z", sig := { parameters := [.int, .int, .int, .int, .int, .int], returnType := some .boolean }, accessFlags := 9, code := some k1c3 }
/-- com/example/tramway/tramway/idl/TokenIsPinLaw -/
def k1 : Class := { plain "com/example/tramway/tramway/idl/TokenIsPinLaw" (some 0) with
  accessFlags := 49
  interfaces := #[]
  cf := some (fileOf pool1 68 #[] #[{ accessFlags := 1, nameIndex := 5, descriptorIndex := 6, attributes := #[] }, { accessFlags := 10, nameIndex := 75, descriptorIndex := 76, attributes := #[] }, { accessFlags := 10, nameIndex := 71, descriptorIndex := 72, attributes := #[] }, { accessFlags := 9, nameIndex := 94, descriptorIndex := 95, attributes := #[] }] 49 2 #[] #[])
  fields := #[]
  methods := #[k1m0, k1m1, k1m2, k1m3]
  instanceTypes := #[]
  staticTypes := #[]
  resolved := Array.replicate 100 none
  statics := none }

def pool2 : Array CpInfo := pool [(1, .class_ 2), (0, u "java/io/Serializable"), (0, .class_ 4), (0, u "java/lang/Object")] 2

/-- java/io/Serializable -/
def k2 : Class := { plain "java/io/Serializable" (some 0) with
  accessFlags := 1537
  interfaces := #[]
  cf := some (fileOf pool2 1 #[] #[] 1537 3 #[] #[])
  fields := #[]
  methods := #[]
  instanceTypes := #[]
  staticTypes := #[]
  resolved := Array.replicate 7 none
  statics := none }

def pool3 : Array CpInfo := pool [(1, .class_ 2), (0, u "java/lang/Comparable"), (0, .class_ 4), (0, u "java/lang/Object")] 7

/-- java/lang/Comparable -/
def k3 : Class := { plain "java/lang/Comparable" (some 0) with
  accessFlags := 1537
  interfaces := #[]
  cf := some (fileOf pool3 1 #[] #[] 1537 3 #[] #[])
  fields := #[]
  methods := #[]
  instanceTypes := #[]
  staticTypes := #[]
  resolved := Array.replicate 12 none
  statics := none }

def pool4 : Array CpInfo := pool [(2, .class_ 4), (1, u "java/lang/CharSequence"), (42, .class_ 48), (0, u "java/lang/CharSequence$1CodePointIterator"), (10, .class_ 60), (0, u "java/lang/CharSequence$1CharIterator"), (5, .class_ 67), (0, u "java/lang/Object")] 63

/-- java/lang/CharSequence -/
def k4 : Class := { plain "java/lang/CharSequence" (some 0) with
  accessFlags := 1537
  interfaces := #[]
  cf := some (fileOf pool4 2 #[.nestMembers #[47, 59]] #[] 1537 66 #[] #[])
  fields := #[]
  methods := #[]
  instanceTypes := #[]
  staticTypes := #[]
  resolved := Array.replicate 131 none
  statics := none }

def pool5 : Array CpInfo := pool [(1, .class_ 2), (0, u "java/lang/constant/Constable"), (0, .class_ 4), (0, u "java/lang/Object")] 6

/-- java/lang/constant/Constable -/
def k5 : Class := { plain "java/lang/constant/Constable" (some 0) with
  accessFlags := 1537
  interfaces := #[]
  cf := some (fileOf pool5 1 #[] #[] 1537 3 #[] #[])
  fields := #[]
  methods := #[]
  instanceTypes := #[]
  staticTypes := #[]
  resolved := Array.replicate 11 none
  statics := none }

def pool6 : Array CpInfo := pool [(1, .class_ 2), (0, u "java/lang/constant/ConstantDesc"), (0, .class_ 4), (0, u "java/lang/Object")] 32

/-- java/lang/constant/ConstantDesc -/
def k6 : Class := { plain "java/lang/constant/ConstantDesc" (some 0) with
  accessFlags := 1537
  interfaces := #[]
  cf := some (fileOf pool6 1 #[] #[] 1537 3 #[] #[])
  fields := #[]
  methods := #[]
  instanceTypes := #[]
  staticTypes := #[]
  resolved := Array.replicate 37 none
  statics := none }

def pool7 : Array CpInfo := pool [(1, .methodref 2 3), (0, .class_ 4), (0, .nameAndType 5 6), (0, u "java/lang/Object"), (0, u "<init>"), (0, u "()V"), (0, .string 8), (0, u ""), (0, .fieldref 10 11), (0, .class_ 12), (0, .nameAndType 13 14), (0, u "java/lang/String"), (0, u "value"), (0, u "[B"), (0, .fieldref 10 16), (0, .nameAndType 17 18), (0, u "coder"), (0, u "B"), (2, u "hash"), (0, u "I"), (2, u "hashIsZero"), (0, u "Z"), (0, .methodref 10 28), (0, .nameAndType 5 29), (0, u "([CIILjava/lang/Void;)V"), (8, .fieldref 10 39), (0, .nameAndType 40 26), (0, u "COMPACT_STRINGS"), (1, .class_ 44), (1, u "java/lang/StringUTF16"), (0, u "compress"), (1, .methodref 42 48), (0, .nameAndType 49 50), (0, u "coderFromArrayLen"), (0, u "([BI)B"), (56, .class_ 109), (1, u "java/lang/StringLatin1"), (67, .methodref 42 178), (0, .nameAndType 45 179), (0, u "([CII)[B"), (361, .methodref 107 542), (0, .nameAndType 543 544), (0, u "equals"), (0, u "([B[B)Z"), (28, u "(Ljava/lang/Object;)Z"), (1, .class_ 576), (0, u "java/lang/CharSequence"), (22, u "CASE_INSENSITIVE_ORDER"), (0, u "Ljava/util/Comparator;"), (409, u "([C)V"), (90, u "serialPersistentFields"), (0, u "[Ljava/io/ObjectStreamField;"), (0, .class_ 1104), (0, u "java/lang/String$CaseInsensitiveComparator"), (1, .class_ 1107), (0, u "java/io/Serializable"), (0, .class_ 1109), (0, u "java/lang/Comparable"), (0, .class_ 1111), (0, u "java/lang/constant/Constable"), (0, .class_ 1113), (0, u "java/lang/constant/ConstantDesc"), (2, u "serialVersionUID"), (0, u "J"), (3, u "REPL"), (0, u "C"), (2, u "LATIN1"), (1, u "UTF16")] 323

def k7m0 : Method := { name := "<init>", desc := "()V", sig := { parameters := [], returnType := none }, accessFlags := 1, code := none }
def k7c1 : Code := { maxStack := 5, maxLocals := 2, code := jdk_42_method_3_code, exceptionTable := #[], attributes := #[] }
def k7m1 : Method := { name := "<init>", desc := "([C)V", sig := { parameters := [(.array .char)], returnType := none }, accessFlags := 1, code := some k7c1 }
def k7c2 : Code := { maxStack := 2, maxLocals := 3, code := jdk_42_method_66_code, exceptionTable := #[], attributes := #[] }
def k7m2 : Method := { name := "equals", desc := "(Ljava/lang/Object;)Z", sig := { parameters := [(.object "java/lang/Object")], returnType := some .boolean }, accessFlags := 1, code := some k7c2 }
def k7c3 : Code := { maxStack := 4, maxLocals := 6, code := jdk_42_method_149_code, exceptionTable := #[], attributes := #[] }
def k7m3 : Method := { name := "<init>", desc := "([CIILjava/lang/Void;)V", sig := { parameters := [(.array .char), .int, .int, (.object "java/lang/Void")], returnType := none }, accessFlags := 2, code := some k7c3 }
/-- java/lang/String -/
def k7 : Class := { plain "java/lang/String" (some 0) with
  accessFlags := 49
  interfaces := #[2, 3, 4, 5, 6]
  cf := some (fileOf pool7 10 #[.nestMembers #[1103]] #[{ accessFlags := 1, nameIndex := 5, descriptorIndex := 6, attributes := #[] }, { accessFlags := 1, nameIndex := 5, descriptorIndex := 1010, attributes := #[] }, { accessFlags := 1, nameIndex := 543, descriptorIndex := 573, attributes := #[] }, { accessFlags := 2, nameIndex := 5, descriptorIndex := 29, attributes := #[] }] 49 2 #[1106, 1108, 575, 1110, 1112] #[{ accessFlags := 18, nameIndex := 13, descriptorIndex := 14, attributes := #[] }, { accessFlags := 18, nameIndex := 17, descriptorIndex := 18, attributes := #[] }, { accessFlags := 2, nameIndex := 21, descriptorIndex := 22, attributes := #[] }, { accessFlags := 2, nameIndex := 25, descriptorIndex := 26, attributes := #[] }, { accessFlags := 26, nameIndex := 1116, descriptorIndex := 1117, attributes := #[] }, { accessFlags := 24, nameIndex := 40, descriptorIndex := 26, attributes := #[] }, { accessFlags := 26, nameIndex := 1101, descriptorIndex := 1102, attributes := #[] }, { accessFlags := 26, nameIndex := 1121, descriptorIndex := 1122, attributes := #[] }, { accessFlags := 25, nameIndex := 599, descriptorIndex := 600, attributes := #[] }, { accessFlags := 24, nameIndex := 1125, descriptorIndex := 18, attributes := #[] }, { accessFlags := 24, nameIndex := 1127, descriptorIndex := 18, attributes := #[] }])
  fields := #[{ name := "value", type := (.array .byte), accessFlags := 18, slot := 0, constantValue := 0 }, { name := "coder", type := .byte, accessFlags := 18, slot := 1, constantValue := 0 }, { name := "hash", type := .int, accessFlags := 2, slot := 2, constantValue := 0 }, { name := "hashIsZero", type := .boolean, accessFlags := 2, slot := 3, constantValue := 0 }, { name := "serialVersionUID", type := .long, accessFlags := 26, slot := 0, constantValue := 0 }, { name := "COMPACT_STRINGS", type := .boolean, accessFlags := 24, slot := 1, constantValue := 0 }, { name := "serialPersistentFields", type := (.array (.object "java/io/ObjectStreamField")), accessFlags := 26, slot := 2, constantValue := 0 }, { name := "REPL", type := .char, accessFlags := 26, slot := 3, constantValue := 0 }, { name := "CASE_INSENSITIVE_ORDER", type := (.object "java/util/Comparator"), accessFlags := 25, slot := 4, constantValue := 0 }, { name := "LATIN1", type := .byte, accessFlags := 24, slot := 5, constantValue := 0 }, { name := "UTF16", type := .byte, accessFlags := 24, slot := 6, constantValue := 0 }]
  methods := #[k7m0, k7m1, k7m2, k7m3]
  instanceTypes := #[(.array .byte), .byte, .int, .boolean]
  staticTypes := #[.long, .boolean, (.array (.object "java/io/ObjectStreamField")), .char, (.object "java/util/Comparator"), .byte, .byte]
  resolved := Array.replicate 1451 none
  statics := some 0 }

def pool8 : Array CpInfo := pool [(2, .class_ 4), (1, u "java/lang/Enum"), (0, u "name"), (0, u "Ljava/lang/String;"), (2, u "ordinal"), (0, u "I"), (1, .class_ 14), (1, u "java/lang/Object"), (4, u "hash"), (86, .class_ 108), (1, u "java/lang/Enum$EnumDesc"), (2, .class_ 112), (0, u "java/lang/constant/Constable"), (0, .class_ 114), (0, u "java/lang/Comparable"), (0, .class_ 116), (0, u "java/io/Serializable")] 87

/-- java/lang/Enum -/
def k8 : Class := { plain "java/lang/Enum" (some 0) with
  accessFlags := 1057
  interfaces := #[5, 3, 2]
  cf := some (fileOf pool8 2 #[.nestMembers #[106]] #[] 1057 12 #[111, 113, 115] #[{ accessFlags := 18, nameIndex := 5, descriptorIndex := 6, attributes := #[] }, { accessFlags := 18, nameIndex := 9, descriptorIndex := 10, attributes := #[] }, { accessFlags := 2, nameIndex := 19, descriptorIndex := 10, attributes := #[] }])
  fields := #[{ name := "name", type := (.object "java/lang/String"), accessFlags := 18, slot := 0, constantValue := 0 }, { name := "ordinal", type := .int, accessFlags := 18, slot := 1, constantValue := 0 }, { name := "hash", type := .int, accessFlags := 2, slot := 2, constantValue := 0 }]
  methods := #[]
  instanceTypes := #[(.object "java/lang/String"), .int, .int]
  staticTypes := #[]
  resolved := Array.replicate 204 none
  statics := none }

def pool9 : Array CpInfo := pool [(1, .class_ 2), (0, u "com/example/tramway/tramway/idl/Token$Kind"), (2, u "IDENTIFIER"), (0, u "Lcom/example/tramway/tramway/idl/Token$Kind;"), (2, u "INTEGER"), (2, u "FLOATING"), (2, u "CHARACTER"), (2, u "WIDE_CHARACTER"), (2, u "STRING"), (2, u "WIDE_STRING"), (2, u "PUNCTUATOR"), (2, u "NEWLINE"), (2, u "ERROR"), (2, u "FILE_START"), (2, u "FILE_END"), (2, u "PREFIX"), (2, u "PRAGMA_ID"), (2, u "PRAGMA_VERSION"), (2, u "PRAGMA_END"), (2, u "END_OF_INPUT"), (2, u "$VALUES"), (0, u "[Lcom/example/tramway/tramway/idl/Token$Kind;"), (6, .class_ 67), (1, u "java/lang/Enum"), (40, .class_ 109), (0, u "com/example/tramway/tramway/idl/Token")] 2

/-- com/example/tramway/tramway/idl/Token$Kind -/
def k9 : Class := { plain "com/example/tramway/tramway/idl/Token$Kind" (some 8) with
  accessFlags := 16432
  interfaces := #[]
  cf := some (fileOf pool9 1 #[.nestHost 108] #[] 16432 65 #[] #[{ accessFlags := 16409, nameIndex := 5, descriptorIndex := 6, attributes := #[] }, { accessFlags := 16409, nameIndex := 9, descriptorIndex := 6, attributes := #[] }, { accessFlags := 16409, nameIndex := 12, descriptorIndex := 6, attributes := #[] }, { accessFlags := 16409, nameIndex := 15, descriptorIndex := 6, attributes := #[] }, { accessFlags := 16409, nameIndex := 18, descriptorIndex := 6, attributes := #[] }, { accessFlags := 16409, nameIndex := 21, descriptorIndex := 6, attributes := #[] }, { accessFlags := 16409, nameIndex := 24, descriptorIndex := 6, attributes := #[] }, { accessFlags := 16409, nameIndex := 27, descriptorIndex := 6, attributes := #[] }, { accessFlags := 16409, nameIndex := 30, descriptorIndex := 6, attributes := #[] }, { accessFlags := 16409, nameIndex := 33, descriptorIndex := 6, attributes := #[] }, { accessFlags := 16409, nameIndex := 36, descriptorIndex := 6, attributes := #[] }, { accessFlags := 16409, nameIndex := 39, descriptorIndex := 6, attributes := #[] }, { accessFlags := 16409, nameIndex := 42, descriptorIndex := 6, attributes := #[] }, { accessFlags := 16409, nameIndex := 45, descriptorIndex := 6, attributes := #[] }, { accessFlags := 16409, nameIndex := 48, descriptorIndex := 6, attributes := #[] }, { accessFlags := 16409, nameIndex := 51, descriptorIndex := 6, attributes := #[] }, { accessFlags := 16409, nameIndex := 54, descriptorIndex := 6, attributes := #[] }, { accessFlags := 4122, nameIndex := 57, descriptorIndex := 58, attributes := #[] }])
  fields := #[{ name := "IDENTIFIER", type := (.object "com/example/tramway/tramway/idl/Token$Kind"), accessFlags := 16409, slot := 0, constantValue := 0 }, { name := "INTEGER", type := (.object "com/example/tramway/tramway/idl/Token$Kind"), accessFlags := 16409, slot := 1, constantValue := 0 }, { name := "FLOATING", type := (.object "com/example/tramway/tramway/idl/Token$Kind"), accessFlags := 16409, slot := 2, constantValue := 0 }, { name := "CHARACTER", type := (.object "com/example/tramway/tramway/idl/Token$Kind"), accessFlags := 16409, slot := 3, constantValue := 0 }, { name := "WIDE_CHARACTER", type := (.object "com/example/tramway/tramway/idl/Token$Kind"), accessFlags := 16409, slot := 4, constantValue := 0 }, { name := "STRING", type := (.object "com/example/tramway/tramway/idl/Token$Kind"), accessFlags := 16409, slot := 5, constantValue := 0 }, { name := "WIDE_STRING", type := (.object "com/example/tramway/tramway/idl/Token$Kind"), accessFlags := 16409, slot := 6, constantValue := 0 }, { name := "PUNCTUATOR", type := (.object "com/example/tramway/tramway/idl/Token$Kind"), accessFlags := 16409, slot := 7, constantValue := 0 }, { name := "NEWLINE", type := (.object "com/example/tramway/tramway/idl/Token$Kind"), accessFlags := 16409, slot := 8, constantValue := 0 }, { name := "ERROR", type := (.object "com/example/tramway/tramway/idl/Token$Kind"), accessFlags := 16409, slot := 9, constantValue := 0 }, { name := "FILE_START", type := (.object "com/example/tramway/tramway/idl/Token$Kind"), accessFlags := 16409, slot := 10, constantValue := 0 }, { name := "FILE_END", type := (.object "com/example/tramway/tramway/idl/Token$Kind"), accessFlags := 16409, slot := 11, constantValue := 0 }, { name := "PREFIX", type := (.object "com/example/tramway/tramway/idl/Token$Kind"), accessFlags := 16409, slot := 12, constantValue := 0 }, { name := "PRAGMA_ID", type := (.object "com/example/tramway/tramway/idl/Token$Kind"), accessFlags := 16409, slot := 13, constantValue := 0 }, { name := "PRAGMA_VERSION", type := (.object "com/example/tramway/tramway/idl/Token$Kind"), accessFlags := 16409, slot := 14, constantValue := 0 }, { name := "PRAGMA_END", type := (.object "com/example/tramway/tramway/idl/Token$Kind"), accessFlags := 16409, slot := 15, constantValue := 0 }, { name := "END_OF_INPUT", type := (.object "com/example/tramway/tramway/idl/Token$Kind"), accessFlags := 16409, slot := 16, constantValue := 0 }, { name := "$VALUES", type := (.array (.object "com/example/tramway/tramway/idl/Token$Kind")), accessFlags := 4122, slot := 17, constantValue := 0 }]
  methods := #[]
  instanceTypes := #[(.object "java/lang/String"), .int, .int]
  staticTypes := #[(.object "com/example/tramway/tramway/idl/Token$Kind"), (.object "com/example/tramway/tramway/idl/Token$Kind"), (.object "com/example/tramway/tramway/idl/Token$Kind"), (.object "com/example/tramway/tramway/idl/Token$Kind"), (.object "com/example/tramway/tramway/idl/Token$Kind"), (.object "com/example/tramway/tramway/idl/Token$Kind"), (.object "com/example/tramway/tramway/idl/Token$Kind"), (.object "com/example/tramway/tramway/idl/Token$Kind"), (.object "com/example/tramway/tramway/idl/Token$Kind"), (.object "com/example/tramway/tramway/idl/Token$Kind"), (.object "com/example/tramway/tramway/idl/Token$Kind"), (.object "com/example/tramway/tramway/idl/Token$Kind"), (.object "com/example/tramway/tramway/idl/Token$Kind"), (.object "com/example/tramway/tramway/idl/Token$Kind"), (.object "com/example/tramway/tramway/idl/Token$Kind"), (.object "com/example/tramway/tramway/idl/Token$Kind"), (.object "com/example/tramway/tramway/idl/Token$Kind"), (.array (.object "com/example/tramway/tramway/idl/Token$Kind"))]
  resolved := Array.replicate 112 none
  statics := some 1 }

def pool10 : Array CpInfo := pool [(1, .methodref 2 3), (0, .class_ 4), (0, .nameAndType 5 6), (0, u "java/lang/Object"), (0, u "<init>"), (0, u "()V"), (0, .class_ 8), (0, u "java/lang/Record")] 13

def k10c0 : Code := { maxStack := 1, maxLocals := 1, code := jdk_30_method_1_code, exceptionTable := #[], attributes := #[] }
def k10m0 : Method := { name := "<init>", desc := "()V", sig := { parameters := [], returnType := none }, accessFlags := 4, code := some k10c0 }
/-- java/lang/Record -/
def k10 : Class := { plain "java/lang/Record" (some 0) with
  accessFlags := 1057
  interfaces := #[]
  cf := some (fileOf pool10 7 #[] #[{ accessFlags := 4, nameIndex := 5, descriptorIndex := 6, attributes := #[] }] 1057 2 #[] #[])
  fields := #[]
  methods := #[k10m0]
  instanceTypes := #[]
  staticTypes := #[]
  resolved := Array.replicate 22 none
  statics := none }

def pool11 : Array CpInfo := pool [(1, .methodref 2 3), (0, .class_ 4), (0, .nameAndType 5 6), (0, u "java/lang/Record"), (0, u "<init>"), (0, u "()V"), (0, .fieldref 8 9), (0, .class_ 10), (0, .nameAndType 11 12), (0, u "com/example/tramway/tramway/idl/Position"), (0, u "sFile"), (0, u "Ljava/lang/String;"), (0, .fieldref 8 14), (0, .nameAndType 15 16), (0, u "nLine"), (0, u "I"), (12, u "(Ljava/lang/String;I)V")] 36

def k11c0 : Code := { maxStack := 2, maxLocals := 3, code := prog_55_method_1_code, exceptionTable := #[], attributes := #[] }
def k11m0 : Method := { name := "<init>", desc := "(Ljava/lang/String;I)V", sig := { parameters := [(.object "java/lang/String"), .int], returnType := none }, accessFlags := 1, code := some k11c0 }
/-- com/example/tramway/tramway/idl/Position -/
def k11 : Class := { plain "com/example/tramway/tramway/idl/Position" (some 10) with
  accessFlags := 49
  interfaces := #[]
  cf := some (fileOf pool11 8 #[] #[{ accessFlags := 1, nameIndex := 5, descriptorIndex := 29, attributes := #[] }] 49 2 #[] #[{ accessFlags := 18, nameIndex := 11, descriptorIndex := 12, attributes := #[] }, { accessFlags := 18, nameIndex := 15, descriptorIndex := 16, attributes := #[] }])
  fields := #[{ name := "sFile", type := (.object "java/lang/String"), accessFlags := 18, slot := 0, constantValue := 0 }, { name := "nLine", type := .int, accessFlags := 18, slot := 1, constantValue := 0 }]
  methods := #[k11m0]
  instanceTypes := #[(.object "java/lang/String"), .int]
  staticTypes := #[]
  resolved := Array.replicate 66 none
  statics := none }

def pool12 : Array CpInfo := pool [(1, .methodref 2 3), (0, .class_ 4), (0, .nameAndType 5 6), (0, u "java/lang/Record"), (0, u "<init>"), (0, u "()V"), (0, .fieldref 8 9), (0, .class_ 10), (0, .nameAndType 11 12), (0, u "com/example/tramway/tramway/idl/Token"), (0, u "eKind"), (0, u "Lcom/example/tramway/tramway/idl/Token$Kind;"), (0, .fieldref 8 14), (0, .nameAndType 15 16), (0, u "sText"), (0, u "Ljava/lang/String;"), (0, .fieldref 8 18), (0, .nameAndType 19 20), (0, u "aPosition"), (0, u "Lcom/example/tramway/tramway/idl/Position;"), (0, .fieldref 8 22), (0, .nameAndType 23 24), (0, u "bSpaced"), (0, u "Z"), (0, .methodref 26 27), (0, .class_ 28), (0, .nameAndType 29 30), (0, u "java/lang/String"), (0, u "equals"), (0, u "(Ljava/lang/Object;)Z"), (1, .class_ 34), (1, u "com/example/tramway/tramway/idl/Token$Kind"), (3, u "is"), (0, u "(Lcom/example/tramway/tramway/idl/Token$Kind;Ljava/lang/String;)Z"), (11, u "(Lcom/example/tramway/tramway/idl/Token$Kind;Ljava/lang/String;Lcom/example/tramway/tramway/idl/Position;Z)V")] 36

def k12c0 : Code := { maxStack := 2, maxLocals := 5, code := prog_64_method_1_code, exceptionTable := #[], attributes := #[] }
def k12m0 : Method := { name := "<init>", desc := "(Lcom/example/tramway/tramway/idl/Token$Kind;Ljava/lang/String;Lcom/example/tramway/tramway/idl/Position;Z)V", sig := { parameters := [(.object "com/example/tramway/tramway/idl/Token$Kind"), (.object "java/lang/String"), (.object "com/example/tramway/tramway/idl/Position"), .boolean], returnType := none }, accessFlags := 0, code := some k12c0 }
def k12c1 : Code := { maxStack := 2, maxLocals := 3, code := prog_64_method_2_code, exceptionTable := #[], attributes := #[] }
def k12m1 : Method := { name := "is", desc := "(Lcom/example/tramway/tramway/idl/Token$Kind;Ljava/lang/String;)Z", sig := { parameters := [(.object "com/example/tramway/tramway/idl/Token$Kind"), (.object "java/lang/String")], returnType := some .boolean }, accessFlags := 0, code := some k12c1 }
/-- com/example/tramway/tramway/idl/Token -/
def k12 : Class := { plain "com/example/tramway/tramway/idl/Token" (some 10) with
  accessFlags := 48
  interfaces := #[]
  cf := some (fileOf pool12 8 #[.nestMembers #[32]] #[{ accessFlags := 0, nameIndex := 5, descriptorIndex := 51, attributes := #[] }, { accessFlags := 0, nameIndex := 38, descriptorIndex := 39, attributes := #[] }] 48 2 #[] #[{ accessFlags := 18, nameIndex := 11, descriptorIndex := 12, attributes := #[] }, { accessFlags := 18, nameIndex := 15, descriptorIndex := 16, attributes := #[] }, { accessFlags := 18, nameIndex := 19, descriptorIndex := 20, attributes := #[] }, { accessFlags := 18, nameIndex := 23, descriptorIndex := 24, attributes := #[] }])
  fields := #[{ name := "eKind", type := (.object "com/example/tramway/tramway/idl/Token$Kind"), accessFlags := 18, slot := 0, constantValue := 0 }, { name := "sText", type := (.object "java/lang/String"), accessFlags := 18, slot := 1, constantValue := 0 }, { name := "aPosition", type := (.object "com/example/tramway/tramway/idl/Position"), accessFlags := 18, slot := 2, constantValue := 0 }, { name := "bSpaced", type := .boolean, accessFlags := 18, slot := 3, constantValue := 0 }]
  methods := #[k12m0, k12m1]
  instanceTypes := #[(.object "com/example/tramway/tramway/idl/Token$Kind"), (.object "java/lang/String"), (.object "com/example/tramway/tramway/idl/Position"), .boolean]
  staticTypes := #[]
  resolved := Array.replicate 88 none
  statics := none }

def pool13 : Array CpInfo := pool [(4, .class_ 6), (1, u "java/lang/Object"), (0, u "<init>"), (0, u "()V"), (5, .class_ 16), (1, u "java/lang/StringLatin1"), (104, u "$assertionsDisabled"), (0, u "Z"), (98, .class_ 223), (1, u "java/lang/StringLatin1$LinesSpliterator"), (57, u "equals"), (0, u "([B[B)Z"), (107, .class_ 391), (0, u "java/lang/StringLatin1$CharsSpliterator")] 3

def k13m0 : Method := { name := "<init>", desc := "()V", sig := { parameters := [], returnType := none }, accessFlags := 0, code := none }
def k13c1 : Code := { maxStack := 3, maxLocals := 3, code := jdk_43_method_13_code, exceptionTable := #[], attributes := #[] }
def k13m1 : Method := { name := "equals", desc := "([B[B)Z", sig := { parameters := [(.array .byte), (.array .byte)], returnType := some .boolean }, accessFlags := 9, code := some k13c1 }
/-- java/lang/StringLatin1 -/
def k13 : Class := { plain "java/lang/StringLatin1" (some 0) with
  accessFlags := 48
  interfaces := #[]
  cf := some (fileOf pool13 14 #[.nestMembers #[390, 221]] #[{ accessFlags := 0, nameIndex := 7, descriptorIndex := 8, attributes := #[] }, { accessFlags := 9, nameIndex := 281, descriptorIndex := 282, attributes := #[] }] 48 4 #[] #[{ accessFlags := 4120, nameIndex := 121, descriptorIndex := 122, attributes := #[] }])
  fields := #[{ name := "$assertionsDisabled", type := .boolean, accessFlags := 4120, slot := 0, constantValue := 0 }]
  methods := #[k13m0, k13m1]
  instanceTypes := #[]
  staticTypes := #[.boolean]
  resolved := Array.replicate 395 none
  statics := none }

def pool14 : Array CpInfo := pool [(6, .class_ 8), (1, u "java/lang/Object"), (0, u "<init>"), (0, u "()V"), (1, .class_ 14), (1, u "java/lang/StringUTF16"), (31, u "$assertionsDisabled"), (0, u "Z"), (13, u "HI_BYTE_SHIFT"), (0, u "I"), (2, u "LO_BYTE_SHIFT"), (49, .methodref 12 116), (0, .nameAndType 117 118), (0, u "compress"), (0, u "([CI[BII)I"), (3, u "([CII)[B"), (138, u "coderFromArrayLen"), (0, u "([BI)B"), (106, .class_ 371), (1, u "java/lang/StringUTF16$LinesSpliterator"), (58, u "MAX_LENGTH"), (196, .class_ 628), (0, u "java/lang/StringUTF16$CodePointsSpliterator"), (0, .class_ 630), (0, u "java/lang/StringUTF16$CharsSpliterator")] 4

def k14m0 : Method := { name := "<init>", desc := "()V", sig := { parameters := [], returnType := none }, accessFlags := 0, code := none }
def k14c1 : Code := { maxStack := 2, maxLocals := 2, code := jdk_52_method_15_code, exceptionTable := #[], attributes := #[] }
def k14m1 : Method := { name := "coderFromArrayLen", desc := "([BI)B", sig := { parameters := [(.array .byte), .int], returnType := some .byte }, accessFlags := 8, code := some k14c1 }
def k14c2 : Code := { maxStack := 5, maxLocals := 6, code := jdk_52_method_16_code, exceptionTable := #[], attributes := #[] }
def k14m2 : Method := { name := "compress", desc := "([CII)[B", sig := { parameters := [(.array .char), .int, .int], returnType := some (.array .byte) }, accessFlags := 9, code := some k14c2 }
def k14c3 : Code := { maxStack := 3, maxLocals := 7, code := jdk_52_method_21_code, exceptionTable := #[], attributes := #[] }
def k14m3 : Method := { name := "compress", desc := "([CI[BII)I", sig := { parameters := [(.array .char), .int, (.array .byte), .int, .int], returnType := some .int }, accessFlags := 9, code := some k14c3 }
/-- java/lang/StringUTF16 -/
def k14 : Class := { plain "java/lang/StringUTF16" (some 0) with
  accessFlags := 48
  interfaces := #[]
  cf := some (fileOf pool14 12 #[.nestMembers #[627, 629, 369]] #[{ accessFlags := 0, nameIndex := 9, descriptorIndex := 10, attributes := #[] }, { accessFlags := 8, nameIndex := 261, descriptorIndex := 262, attributes := #[] }, { accessFlags := 9, nameIndex := 117, descriptorIndex := 122, attributes := #[] }, { accessFlags := 9, nameIndex := 117, descriptorIndex := 118, attributes := #[] }] 48 6 #[] #[{ accessFlags := 26, nameIndex := 61, descriptorIndex := 62, attributes := #[] }, { accessFlags := 26, nameIndex := 65, descriptorIndex := 62, attributes := #[] }, { accessFlags := 24, nameIndex := 430, descriptorIndex := 62, attributes := #[] }, { accessFlags := 4120, nameIndex := 46, descriptorIndex := 47, attributes := #[] }])
  fields := #[{ name := "HI_BYTE_SHIFT", type := .int, accessFlags := 26, slot := 0, constantValue := 0 }, { name := "LO_BYTE_SHIFT", type := .int, accessFlags := 26, slot := 1, constantValue := 0 }, { name := "MAX_LENGTH", type := .int, accessFlags := 24, slot := 2, constantValue := 0 }, { name := "$assertionsDisabled", type := .boolean, accessFlags := 4120, slot := 3, constantValue := 0 }]
  methods := #[k14m0, k14m1, k14m2, k14m3]
  instanceTypes := #[]
  staticTypes := #[.int, .int, .int, .boolean]
  resolved := Array.replicate 635 none
  statics := none }

def pool15 : Array CpInfo := pool [(2, .class_ 4), (1, u "java/lang/Object"), (0, u "<init>"), (0, u "()V"), (17, .class_ 26), (1, u "jdk/internal/util/Preconditions"), (28, .class_ 56), (0, u "jdk/internal/util/Preconditions$4"), (57, .class_ 115), (0, u "jdk/internal/util/Preconditions$1"), (7, u "SIOOBE_FORMATTER"), (0, u "Ljava/util/function/BiFunction;"), (0, .class_ 126), (0, u "jdk/internal/util/Preconditions$2"), (3, u "AIOOBE_FORMATTER"), (0, .class_ 132), (0, u "jdk/internal/util/Preconditions$3"), (3, u "IOOBE_FORMATTER")] 57

def k15m0 : Method := { name := "<init>", desc := "()V", sig := { parameters := [], returnType := none }, accessFlags := 1, code := none }
/-- jdk/internal/util/Preconditions -/
def k15 : Class := { plain "jdk/internal/util/Preconditions" (some 0) with
  accessFlags := 33
  interfaces := #[]
  cf := some (fileOf pool15 24 #[.nestMembers #[55, 131, 125, 114]] #[{ accessFlags := 1, nameIndex := 5, descriptorIndex := 6, attributes := #[] }] 33 2 #[] #[{ accessFlags := 25, nameIndex := 123, descriptorIndex := 124, attributes := #[] }, { accessFlags := 25, nameIndex := 130, descriptorIndex := 124, attributes := #[] }, { accessFlags := 25, nameIndex := 136, descriptorIndex := 124, attributes := #[] }])
  fields := #[{ name := "SIOOBE_FORMATTER", type := (.object "java/util/function/BiFunction"), accessFlags := 25, slot := 0, constantValue := 0 }, { name := "AIOOBE_FORMATTER", type := (.object "java/util/function/BiFunction"), accessFlags := 25, slot := 1, constantValue := 0 }, { name := "IOOBE_FORMATTER", type := (.object "java/util/function/BiFunction"), accessFlags := 25, slot := 2, constantValue := 0 }]
  methods := #[k15m0]
  instanceTypes := #[]
  staticTypes := #[(.object "java/util/function/BiFunction"), (.object "java/util/function/BiFunction"), (.object "java/util/function/BiFunction")]
  resolved := Array.replicate 194 none
  statics := some 2 }

def pool16 : Array CpInfo := pool [(9, u "<init>"), (6, .class_ 18), (1, u "java/lang/Object"), (0, u "()V"), (1, .class_ 23), (1, u "jdk/internal/util/ArraysSupport"), (0, u "LOG2_ARRAY_LONG_INDEX_SCALE"), (0, u "I"), (2, u "U"), (0, u "Ljdk/internal/misc/Unsafe;"), (8, u "BIG_ENDIAN"), (0, u "Z"), (8, u "LOG2_BYTE_BIT_SIZE"), (4, u "LOG2_ARRAY_INT_INDEX_SCALE"), (54, u "JLA"), (0, u "Ljdk/internal/access/JavaLangAccess;"), (11, u "LOG2_ARRAY_BOOLEAN_INDEX_SCALE"), (9, u "LOG2_ARRAY_BYTE_INDEX_SCALE"), (5, u "LOG2_ARRAY_CHAR_INDEX_SCALE"), (5, u "LOG2_ARRAY_SHORT_INDEX_SCALE"), (18, u "LOG2_ARRAY_FLOAT_INDEX_SCALE"), (24, u "LOG2_ARRAY_DOUBLE_INDEX_SCALE"), (89, u "T_BOOLEAN"), (2, u "T_CHAR"), (1, u "T_FLOAT"), (1, u "T_DOUBLE"), (1, u "T_BYTE"), (1, u "T_SHORT"), (1, u "T_INT"), (1, u "T_LONG"), (1, u "SOFT_MAX_ARRAY_LENGTH")] 83

def k16m0 : Method := { name := "<init>", desc := "()V", sig := { parameters := [], returnType := none }, accessFlags := 2, code := none }
/-- jdk/internal/util/ArraysSupport -/
def k16 : Class := { plain "jdk/internal/util/ArraysSupport" (some 0) with
  accessFlags := 33
  interfaces := #[]
  cf := some (fileOf pool16 21 #[] #[{ accessFlags := 2, nameIndex := 9, descriptorIndex := 19, attributes := #[] }] 33 16 #[] #[{ accessFlags := 24, nameIndex := 28, descriptorIndex := 29, attributes := #[] }, { accessFlags := 26, nameIndex := 38, descriptorIndex := 39, attributes := #[] }, { accessFlags := 25, nameIndex := 121, descriptorIndex := 25, attributes := #[] }, { accessFlags := 25, nameIndex := 131, descriptorIndex := 25, attributes := #[] }, { accessFlags := 25, nameIndex := 137, descriptorIndex := 25, attributes := #[] }, { accessFlags := 25, nameIndex := 143, descriptorIndex := 25, attributes := #[] }, { accessFlags := 25, nameIndex := 53, descriptorIndex := 25, attributes := #[] }, { accessFlags := 25, nameIndex := 24, descriptorIndex := 25, attributes := #[] }, { accessFlags := 25, nameIndex := 162, descriptorIndex := 25, attributes := #[] }, { accessFlags := 25, nameIndex := 187, descriptorIndex := 25, attributes := #[] }, { accessFlags := 26, nameIndex := 48, descriptorIndex := 25, attributes := #[] }, { accessFlags := 25, nameIndex := 277, descriptorIndex := 25, attributes := #[] }, { accessFlags := 25, nameIndex := 280, descriptorIndex := 25, attributes := #[] }, { accessFlags := 25, nameIndex := 282, descriptorIndex := 25, attributes := #[] }, { accessFlags := 25, nameIndex := 284, descriptorIndex := 25, attributes := #[] }, { accessFlags := 25, nameIndex := 286, descriptorIndex := 25, attributes := #[] }, { accessFlags := 25, nameIndex := 288, descriptorIndex := 25, attributes := #[] }, { accessFlags := 25, nameIndex := 290, descriptorIndex := 25, attributes := #[] }, { accessFlags := 25, nameIndex := 292, descriptorIndex := 25, attributes := #[] }, { accessFlags := 26, nameIndex := 108, descriptorIndex := 109, attributes := #[] }, { accessFlags := 25, nameIndex := 294, descriptorIndex := 25, attributes := #[] }])
  fields := #[{ name := "U", type := (.object "jdk/internal/misc/Unsafe"), accessFlags := 24, slot := 0, constantValue := 0 }, { name := "BIG_ENDIAN", type := .boolean, accessFlags := 26, slot := 1, constantValue := 0 }, { name := "LOG2_ARRAY_BOOLEAN_INDEX_SCALE", type := .int, accessFlags := 25, slot := 2, constantValue := 0 }, { name := "LOG2_ARRAY_BYTE_INDEX_SCALE", type := .int, accessFlags := 25, slot := 3, constantValue := 0 }, { name := "LOG2_ARRAY_CHAR_INDEX_SCALE", type := .int, accessFlags := 25, slot := 4, constantValue := 0 }, { name := "LOG2_ARRAY_SHORT_INDEX_SCALE", type := .int, accessFlags := 25, slot := 5, constantValue := 0 }, { name := "LOG2_ARRAY_INT_INDEX_SCALE", type := .int, accessFlags := 25, slot := 6, constantValue := 0 }, { name := "LOG2_ARRAY_LONG_INDEX_SCALE", type := .int, accessFlags := 25, slot := 7, constantValue := 0 }, { name := "LOG2_ARRAY_FLOAT_INDEX_SCALE", type := .int, accessFlags := 25, slot := 8, constantValue := 0 }, { name := "LOG2_ARRAY_DOUBLE_INDEX_SCALE", type := .int, accessFlags := 25, slot := 9, constantValue := 0 }, { name := "LOG2_BYTE_BIT_SIZE", type := .int, accessFlags := 26, slot := 10, constantValue := 0 }, { name := "T_BOOLEAN", type := .int, accessFlags := 25, slot := 11, constantValue := 0 }, { name := "T_CHAR", type := .int, accessFlags := 25, slot := 12, constantValue := 0 }, { name := "T_FLOAT", type := .int, accessFlags := 25, slot := 13, constantValue := 0 }, { name := "T_DOUBLE", type := .int, accessFlags := 25, slot := 14, constantValue := 0 }, { name := "T_BYTE", type := .int, accessFlags := 25, slot := 15, constantValue := 0 }, { name := "T_SHORT", type := .int, accessFlags := 25, slot := 16, constantValue := 0 }, { name := "T_INT", type := .int, accessFlags := 25, slot := 17, constantValue := 0 }, { name := "T_LONG", type := .int, accessFlags := 25, slot := 18, constantValue := 0 }, { name := "JLA", type := (.object "jdk/internal/access/JavaLangAccess"), accessFlags := 26, slot := 19, constantValue := 0 }, { name := "SOFT_MAX_ARRAY_LENGTH", type := .int, accessFlags := 25, slot := 20, constantValue := 0 }]
  methods := #[k16m0]
  instanceTypes := #[]
  staticTypes := #[(.object "jdk/internal/misc/Unsafe"), .boolean, .int, .int, .int, .int, .int, .int, .int, .int, .int, .int, .int, .int, .int, .int, .int, .int, .int, (.object "jdk/internal/access/JavaLangAccess"), .int]
  resolved := Array.replicate 378 none
  statics := none }

def pool17 : Array CpInfo := pool [(1, u "java/lang/Cloneable"), (0, .class_ 1), (0, u "java/lang/Object"), (0, .class_ 3)] 3

/-- java/lang/Cloneable -/
def k17 : Class := { plain "java/lang/Cloneable" (some 0) with
  accessFlags := 1537
  interfaces := #[]
  cf := some (fileOf pool17 2 #[] #[] 1537 4 #[] #[])
  fields := #[]
  methods := #[]
  instanceTypes := #[]
  staticTypes := #[]
  resolved := Array.replicate 8 none
  statics := none }

/-- the primitive byte -/
def k18 : Class := { plain "byte" none with kind := .primitive 'B', accessFlags := 0x411 }
/-- [B -/
def k19 : Class := { plain "[B" (some 0) with kind := .array 18 .byte, interfaces := #[17, 2], accessFlags := 1041 }

/-- the primitive char -/
def k20 : Class := { plain "char" none with kind := .primitive 'C', accessFlags := 0x411 }
/-- [C -/
def k21 : Class := { plain "[C" (some 0) with kind := .array 20 .char, interfaces := #[17, 2], accessFlags := 1041 }

/-- the primitive int -/
def k22 : Class := { plain "int" none with kind := .primitive 'I', accessFlags := 0x411 }
/-- [I -/
def k23 : Class := { plain "[I" (some 0) with kind := .array 22 .int, interfaces := #[17, 2], accessFlags := 1041 }

def heap : Heap := #[{ cls := 7, slots := #[.long 0, .int 1, .null, .int 0, .null, .int 0, .int 0], vm := .statics 7 },
  { cls := 9, slots := #[.ref 3, .ref 4, .ref 5, .ref 6, .ref 7, .ref 8, .ref 9, .ref 10, .ref 11, .ref 12, .ref 13, .ref 14, .ref 15, .ref 16, .ref 17, .ref 18, .ref 19, .null], vm := .statics 9 },
  { cls := 15, slots := #[.null, .null, .null], vm := .statics 15 },
  { cls := 9, slots := #[.null, .int 0, .int 0], vm := .none },
  { cls := 9, slots := #[.null, .int 1, .int 0], vm := .none },
  { cls := 9, slots := #[.null, .int 2, .int 0], vm := .none },
  { cls := 9, slots := #[.null, .int 3, .int 0], vm := .none },
  { cls := 9, slots := #[.null, .int 4, .int 0], vm := .none },
  { cls := 9, slots := #[.null, .int 5, .int 0], vm := .none },
  { cls := 9, slots := #[.null, .int 6, .int 0], vm := .none },
  { cls := 9, slots := #[.null, .int 7, .int 0], vm := .none },
  { cls := 9, slots := #[.null, .int 8, .int 0], vm := .none },
  { cls := 9, slots := #[.null, .int 9, .int 0], vm := .none },
  { cls := 9, slots := #[.null, .int 10, .int 0], vm := .none },
  { cls := 9, slots := #[.null, .int 11, .int 0], vm := .none },
  { cls := 9, slots := #[.null, .int 12, .int 0], vm := .none },
  { cls := 9, slots := #[.null, .int 13, .int 0], vm := .none },
  { cls := 9, slots := #[.null, .int 14, .int 0], vm := .none },
  { cls := 9, slots := #[.null, .int 15, .int 0], vm := .none },
  { cls := 9, slots := #[.null, .int 16, .int 0], vm := .none }]
def classes : Array Class := #[k0, k1, k2, k3, k4, k5, k6, k7, k8, k9, k10, k11, k12, k13, k14, k15, k16, k17, k18, k19, k20, k21, k22, k23]
def interned : List (Array UInt16 × Addr) := []
def slotsUsed : Nat := 79
def theMethod : MethodId := ⟨1, 3⟩
def args0 : Array Value := #[.int 1, .int 2, .int 3, .int 4, .int 5, .int 6]
def aboutOver (below : List Frame) : State where
  vm := { classes := classes, interned := interned.toArray }
  heap := heap
  slotsUsed := slotsUsed
  threads := #[{ frames := .invoking theMethod args0 :: below }]
def below0 : List Frame := [.native { method := ⟨0, 0⟩, args := #[] }]
def about1 : State := aboutOver below0
def p0 : Program := .bare "" "" ""
def e0 : Env := launch0.env 0 0 0
theorem w_frames : about1.frames = Frame.invoking theMethod args0 :: below0 := rfl
set_option maxRecDepth 65536 in
theorem w_args : argsFit about1.vm theMethod args0 = true := by decide +kernel
set_option maxRecDepth 65536 in
theorem w_heap : heapFits about1 = true := by decide +kernel
set_option maxRecDepth 65536 in
theorem w_runnable : about1.curStatus? = some .runnable := by decide +kernel
set_option maxRecDepth 65536 in
theorem w_alone : about1.alone = true := by decide +kernel
set_option maxRecDepth 65536 in
theorem w_named : about1.methodNamed? x = some theMethod := by decide +kernel
set_option maxRecDepth 65536 in
theorem w_hears : about1.hears theMethod below0 = true := by decide +kernel
set_option maxRecDepth 65536 in
theorem w_ripe : about1.ripe theMethod args0 below0 = true := by decide +kernel
theorem w_running : about1.status = .running := rfl
set_option maxRecDepth 65536 in
theorem w_room : about1.hasRoom e0.platform room_1 = true :=
  launch0.hasRoom_least _ room_1 (by decide +kernel) (by decide +kernel) (by decide +kernel) (by decide +kernel) (by decide +kernel) (by decide +kernel)
theorem allAtoms_all (ts : List Jvm.Cond) (a : Array Jvm.Value) (st : Jvm.State) : (allAtoms ts).before a st = ts.all (fun c => c.before a st) := by
  induction ts with
  | nil => rfl
  | cons c t ih =>
    show (Jvm.Cond.and c (allAtoms t)).before a st = _
    rw [Jvm.Cond.before_and, ih, List.all_cons]
def words1 : List Jvm.Cond := Jvm.Cond.code x code maxLocals ret :: tables_1
/-- a 'code' word, met by the world's own term for the bytes: nothing is compared byte by byte -/
theorem code_word {y : MethodName} {bytes : ByteArray} {mx : Nat} {rt : Option FieldType} {a : Array Value} {s : State} {m : MethodId} {meth : Method} {c : Code} (h1 : s.methodNamed? y = some m) (h2 : s.vm.method? m = some meth) (h3 : meth.code = some c) (h4 : c.code = bytes)
    (h5 : (c.maxLocals == mx && c.exceptionTable.isEmpty && decide (c.maxStack ≤ mostOperands) && decide (meth.sig.returnType = rt) && !meth.locks && decide (parseMethodDescriptor y.desc = some meth.sig)) = true) : (Jvm.Cond.code y bytes mx rt).before a s = true := by
  simp only [Bool.and_eq_true, beq_iff_eq, Bool.not_eq_true', decide_eq_true_eq] at h5
  obtain ⟨⟨⟨⟨⟨g1, g2⟩, g3⟩, g4⟩, g5⟩, g6⟩ := h5
  simp [Cond.before, Cond.holds, Cond.value, h1, h2, h3, h4, g1, g2, g3, g4, g5, g6]
def isCode : Jvm.Cond → Bool
  | .code _ _ _ _ => true
  | _ => false
theorem all_split {L : List Jvm.Cond} {P : Jvm.Cond → Bool} (h1 : L.all (fun c => isCode c || P c) = true) (h2 : ∀ c ∈ L.filter isCode, P c = true) : L.all P = true := by
  refine List.all_eq_true.mpr fun c hc => ?_
  have h := List.all_eq_true.mp h1 c hc
  rcases Bool.eq_false_or_eq_true (isCode c) with hi | hi
  · exact h2 c (List.mem_filter.mpr ⟨hc, hi⟩)
  · simpa [hi] using h
set_option maxRecDepth 65536 in
theorem w_c0 : (Jvm.Cond.code x code maxLocals ret).before args0 about1 = true := code_word (m := ⟨1, 3⟩) (meth := k1m3) (c := k1c3) (by decide +kernel) rfl rfl rfl (by decide +kernel)
set_option maxRecDepth 65536 in
theorem w_c1 : (Jvm.Cond.code ({ cls := "com/example/tramway/tramway/idl/TokenIsPinLaw", name := "text", desc := "(ICC)Ljava/lang/String;" } : Jvm.MethodName) method_3_code (3 : Nat) (Option.some (Jvm.ClassFile.FieldType.object "java/lang/String"))).before args0 about1 = true := code_word (m := ⟨1, 2⟩) (meth := k1m2) (c := k1c2) (by decide +kernel) rfl rfl rfl (by decide +kernel)
set_option maxRecDepth 65536 in
theorem w_c2 : (Jvm.Cond.code ({ cls := "java/lang/String", name := "<init>", desc := "([C)V" } : Jvm.MethodName) jdk_42_method_3_code (2 : Nat) (Option.none : Option Jvm.ClassFile.FieldType)).before args0 about1 = true := code_word (m := ⟨7, 1⟩) (meth := k7m1) (c := k7c1) (by decide +kernel) rfl rfl rfl (by decide +kernel)
set_option maxRecDepth 65536 in
theorem w_c3 : (Jvm.Cond.code ({ cls := "java/lang/String", name := "<init>", desc := "([CIILjava/lang/Void;)V" } : Jvm.MethodName) jdk_42_method_149_code (6 : Nat) (Option.none : Option Jvm.ClassFile.FieldType)).before args0 about1 = true := code_word (m := ⟨7, 3⟩) (meth := k7m3) (c := k7c3) (by decide +kernel) rfl rfl rfl (by decide +kernel)
set_option maxRecDepth 65536 in
theorem w_c4 : (Jvm.Cond.code ({ cls := "java/lang/Object", name := "<init>", desc := "()V" } : Jvm.MethodName) object_method_1_code (1 : Nat) (Option.none : Option Jvm.ClassFile.FieldType)).before args0 about1 = true := code_word (m := ⟨0, 0⟩) (meth := k0m0) (c := k0c0) (by decide +kernel) rfl rfl rfl (by decide +kernel)
set_option maxRecDepth 65536 in
theorem w_c5 : (Jvm.Cond.code ({ cls := "com/example/tramway/tramway/idl/TokenIsPinLaw", name := "kind", desc := "(I)Lcom/example/tramway/tramway/idl/Token$Kind;" } : Jvm.MethodName) method_2_code (1 : Nat) (Option.some (Jvm.ClassFile.FieldType.object "com/example/tramway/tramway/idl/Token$Kind"))).before args0 about1 = true := code_word (m := ⟨1, 1⟩) (meth := k1m1) (c := k1c1) (by decide +kernel) rfl rfl rfl (by decide +kernel)
set_option maxRecDepth 65536 in
theorem w_c6 : (Jvm.Cond.code ({ cls := "com/example/tramway/tramway/idl/Position", name := "<init>", desc := "(Ljava/lang/String;I)V" } : Jvm.MethodName) prog_55_method_1_code (3 : Nat) (Option.none : Option Jvm.ClassFile.FieldType)).before args0 about1 = true := code_word (m := ⟨11, 0⟩) (meth := k11m0) (c := k11c0) (by decide +kernel) rfl rfl rfl (by decide +kernel)
set_option maxRecDepth 65536 in
theorem w_c7 : (Jvm.Cond.code ({ cls := "java/lang/Record", name := "<init>", desc := "()V" } : Jvm.MethodName) jdk_30_method_1_code (1 : Nat) (Option.none : Option Jvm.ClassFile.FieldType)).before args0 about1 = true := code_word (m := ⟨10, 0⟩) (meth := k10m0) (c := k10c0) (by decide +kernel) rfl rfl rfl (by decide +kernel)
set_option maxRecDepth 65536 in
theorem w_c8 : (Jvm.Cond.code ({ cls := "com/example/tramway/tramway/idl/Token", name := "<init>", desc := "(Lcom/example/tramway/tramway/idl/Token$Kind;Ljava/lang/String;Lcom/example/tramway/tramway/idl/Position;Z)V" } : Jvm.MethodName) prog_64_method_1_code (5 : Nat) (Option.none : Option Jvm.ClassFile.FieldType)).before args0 about1 = true := code_word (m := ⟨12, 0⟩) (meth := k12m0) (c := k12c0) (by decide +kernel) rfl rfl rfl (by decide +kernel)
set_option maxRecDepth 65536 in
theorem w_c9 : (Jvm.Cond.code ({ cls := "com/example/tramway/tramway/idl/Token", name := "is", desc := "(Lcom/example/tramway/tramway/idl/Token$Kind;Ljava/lang/String;)Z" } : Jvm.MethodName) prog_64_method_2_code (3 : Nat) (Option.some Jvm.ClassFile.FieldType.boolean)).before args0 about1 = true := code_word (m := ⟨12, 1⟩) (meth := k12m1) (c := k12c1) (by decide +kernel) rfl rfl rfl (by decide +kernel)
set_option maxRecDepth 65536 in
theorem w_c10 : (Jvm.Cond.code ({ cls := "java/lang/String", name := "equals", desc := "(Ljava/lang/Object;)Z" } : Jvm.MethodName) jdk_42_method_66_code (3 : Nat) (Option.some Jvm.ClassFile.FieldType.boolean)).before args0 about1 = true := code_word (m := ⟨7, 2⟩) (meth := k7m2) (c := k7c2) (by decide +kernel) rfl rfl rfl (by decide +kernel)
set_option maxRecDepth 65536 in
theorem w_c11 : (Jvm.Cond.code ({ cls := "java/lang/StringLatin1", name := "equals", desc := "([B[B)Z" } : Jvm.MethodName) jdk_43_method_13_code (3 : Nat) (Option.some Jvm.ClassFile.FieldType.boolean)).before args0 about1 = true := code_word (m := ⟨13, 1⟩) (meth := k13m1) (c := k13c1) (by decide +kernel) rfl rfl rfl (by decide +kernel)
set_option maxRecDepth 65536 in
theorem w_c12 : (Jvm.Cond.code ({ cls := "java/lang/StringUTF16", name := "compress", desc := "([CII)[B" } : Jvm.MethodName) jdk_52_method_16_code (6 : Nat) (Option.some (Jvm.ClassFile.FieldType.array Jvm.ClassFile.FieldType.byte))).before args0 about1 = true := code_word (m := ⟨14, 2⟩) (meth := k14m2) (c := k14c2) (by decide +kernel) rfl rfl rfl (by decide +kernel)
set_option maxRecDepth 65536 in
theorem w_c13 : (Jvm.Cond.code ({ cls := "java/lang/StringUTF16", name := "compress", desc := "([CI[BII)I" } : Jvm.MethodName) jdk_52_method_21_code (7 : Nat) (Option.some Jvm.ClassFile.FieldType.int)).before args0 about1 = true := code_word (m := ⟨14, 3⟩) (meth := k14m3) (c := k14c3) (by decide +kernel) rfl rfl rfl (by decide +kernel)
set_option maxRecDepth 65536 in
theorem w_c14 : (Jvm.Cond.code ({ cls := "java/lang/StringUTF16", name := "coderFromArrayLen", desc := "([BI)B" } : Jvm.MethodName) jdk_52_method_15_code (2 : Nat) (Option.some Jvm.ClassFile.FieldType.byte)).before args0 about1 = true := code_word (m := ⟨14, 1⟩) (meth := k14m1) (c := k14c1) (by decide +kernel) rfl rfl rfl (by decide +kernel)
def codes1 : List Jvm.Cond := [Jvm.Cond.code x code maxLocals ret, Jvm.Cond.code ({ cls := "com/example/tramway/tramway/idl/TokenIsPinLaw", name := "text", desc := "(ICC)Ljava/lang/String;" } : Jvm.MethodName) method_3_code (3 : Nat) (Option.some (Jvm.ClassFile.FieldType.object "java/lang/String")), Jvm.Cond.code ({ cls := "java/lang/String", name := "<init>", desc := "([C)V" } : Jvm.MethodName) jdk_42_method_3_code (2 : Nat) (Option.none : Option Jvm.ClassFile.FieldType), Jvm.Cond.code ({ cls := "java/lang/String", name := "<init>", desc := "([CIILjava/lang/Void;)V" } : Jvm.MethodName) jdk_42_method_149_code (6 : Nat) (Option.none : Option Jvm.ClassFile.FieldType), Jvm.Cond.code ({ cls := "java/lang/Object", name := "<init>", desc := "()V" } : Jvm.MethodName) object_method_1_code (1 : Nat) (Option.none : Option Jvm.ClassFile.FieldType), Jvm.Cond.code ({ cls := "com/example/tramway/tramway/idl/TokenIsPinLaw", name := "kind", desc := "(I)Lcom/example/tramway/tramway/idl/Token$Kind;" } : Jvm.MethodName) method_2_code (1 : Nat) (Option.some (Jvm.ClassFile.FieldType.object "com/example/tramway/tramway/idl/Token$Kind")), Jvm.Cond.code ({ cls := "com/example/tramway/tramway/idl/Position", name := "<init>", desc := "(Ljava/lang/String;I)V" } : Jvm.MethodName) prog_55_method_1_code (3 : Nat) (Option.none : Option Jvm.ClassFile.FieldType), Jvm.Cond.code ({ cls := "java/lang/Record", name := "<init>", desc := "()V" } : Jvm.MethodName) jdk_30_method_1_code (1 : Nat) (Option.none : Option Jvm.ClassFile.FieldType), Jvm.Cond.code ({ cls := "com/example/tramway/tramway/idl/Token", name := "<init>", desc := "(Lcom/example/tramway/tramway/idl/Token$Kind;Ljava/lang/String;Lcom/example/tramway/tramway/idl/Position;Z)V" } : Jvm.MethodName) prog_64_method_1_code (5 : Nat) (Option.none : Option Jvm.ClassFile.FieldType), Jvm.Cond.code ({ cls := "com/example/tramway/tramway/idl/Token", name := "is", desc := "(Lcom/example/tramway/tramway/idl/Token$Kind;Ljava/lang/String;)Z" } : Jvm.MethodName) prog_64_method_2_code (3 : Nat) (Option.some Jvm.ClassFile.FieldType.boolean), Jvm.Cond.code ({ cls := "java/lang/String", name := "equals", desc := "(Ljava/lang/Object;)Z" } : Jvm.MethodName) jdk_42_method_66_code (3 : Nat) (Option.some Jvm.ClassFile.FieldType.boolean), Jvm.Cond.code ({ cls := "java/lang/StringLatin1", name := "equals", desc := "([B[B)Z" } : Jvm.MethodName) jdk_43_method_13_code (3 : Nat) (Option.some Jvm.ClassFile.FieldType.boolean), Jvm.Cond.code ({ cls := "java/lang/StringUTF16", name := "compress", desc := "([CII)[B" } : Jvm.MethodName) jdk_52_method_16_code (6 : Nat) (Option.some (Jvm.ClassFile.FieldType.array Jvm.ClassFile.FieldType.byte)), Jvm.Cond.code ({ cls := "java/lang/StringUTF16", name := "compress", desc := "([CI[BII)I" } : Jvm.MethodName) jdk_52_method_21_code (7 : Nat) (Option.some Jvm.ClassFile.FieldType.int), Jvm.Cond.code ({ cls := "java/lang/StringUTF16", name := "coderFromArrayLen", desc := "([BI)B" } : Jvm.MethodName) jdk_52_method_15_code (2 : Nat) (Option.some Jvm.ClassFile.FieldType.byte)]
set_option maxRecDepth 65536 in
theorem codes_eq : words1.filter isCode = codes1 := rfl
theorem w_codes : ∀ c ∈ words1.filter isCode, c.before args0 about1 = true := by
  rw [codes_eq]
  intro c hc
  simp only [codes1, List.mem_cons, List.not_mem_nil, or_false] at hc
  rcases hc with rfl | rfl | rfl | rfl | rfl | rfl | rfl | rfl | rfl | rfl | rfl | rfl | rfl | rfl | rfl
  · exact w_c0
  · exact w_c1
  · exact w_c2
  · exact w_c3
  · exact w_c4
  · exact w_c5
  · exact w_c6
  · exact w_c7
  · exact w_c8
  · exact w_c9
  · exact w_c10
  · exact w_c11
  · exact w_c12
  · exact w_c13
  · exact w_c14
set_option maxRecDepth 65536 in
theorem w_t1 : (words1.take 24).all (fun c => isCode c || c.before args0 about1) = true := by decide +kernel
set_option maxRecDepth 65536 in
theorem w_t2 : ((words1.drop 24).take 24).all (fun c => isCode c || c.before args0 about1) = true := by decide +kernel
set_option maxRecDepth 65536 in
theorem w_t3 : (((words1.drop 24).drop 24).take 24).all (fun c => isCode c || c.before args0 about1) = true := by decide +kernel
set_option maxRecDepth 65536 in
theorem w_t4 : ((((words1.drop 24).drop 24).drop 24).take 24).all (fun c => isCode c || c.before args0 about1) = true := by decide +kernel
set_option maxRecDepth 65536 in
theorem w_t5 : (((((words1.drop 24).drop 24).drop 24).drop 24).take 24).all (fun c => isCode c || c.before args0 about1) = true := by decide +kernel
set_option maxRecDepth 65536 in
theorem w_t6 : (((((words1.drop 24).drop 24).drop 24).drop 24).drop 24).all (fun c => isCode c || c.before args0 about1) = true := by decide +kernel
theorem w_tables : (allAtoms (Jvm.Cond.code x code maxLocals ret :: tables_1)).before args0 about1 = true := by
  rw [allAtoms_all]
  show words1.all (fun c => c.before args0 about1) = true
  refine all_split ?_ w_codes
  rw [← List.take_append_drop 24 words1, List.all_append, w_t1, ← List.take_append_drop 24 (words1.drop 24), List.all_append, w_t2, ← List.take_append_drop 24 ((words1.drop 24).drop 24), List.all_append, w_t3, ← List.take_append_drop 24 (((words1.drop 24).drop 24).drop 24), List.all_append, w_t4, ← List.take_append_drop 24 ((((words1.drop 24).drop 24).drop 24).drop 24), List.all_append, w_t5, w_t6]
  rfl
set_option maxRecDepth 65536 in
theorem w_rest : rest_1_c.before args0 about1 = true := by decide +kernel
set_option maxRecDepth 65536 in
theorem w_case : (Jvm.Cond.and given_1 narrow_1).before args0 about1 = true := by decide +kernel
set_option maxRecDepth 65536 in
theorem w_consts : constsHeld consts_1 about1 := Jvm.Lit.constsHeldB_iff.mp (by decide +kernel)
theorem w_applies : (headSpec (Jvm.Cond.code x code maxLocals ret :: tables_1) room_1).applies x e0.platform about1 = true :=
  (Spec.applies_iff w_frames).mpr ⟨w_running, w_runnable, w_alone, w_named, w_hears, w_ripe, w_room, w_tables⟩
theorem atStart : AtStart classFile x code maxLocals ret World_1 tables_1 room_1 Calls_1 rest_1 Pre_1 launch0 p0 e0 about1 theMethod args0 below0 :=
  ⟨lists_1, trivial, launch0.admits_env _ _ _, launch0.least_env, fairChoices_fair.cas, fairChoices_fair.clock, w_frames, w_args, w_heap, w_applies, ⟨w_consts, trivial⟩, w_rest, w_case⟩
end start1
theorem witness_1 : WitnessClaimed_1 := ⟨start1.p0, start1.e0, start1.about1, start1.theMethod, start1.args0, start1.below0, start1.atStart⟩
end Jvm.Pilot.@@N@@
