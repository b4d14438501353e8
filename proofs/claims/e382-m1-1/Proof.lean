import JvmDerived
import JvmDerived.Pilot.@@N@@Statement
import JvmDerived.Pilot.@@N@@Code
set_option linter.unusedVariables false
set_option linter.unusedSimpArgs false
namespace Jvm.RoadKit
open Sem ClassFile Op Lib Jvm.Stand Jvm.Free Jvm.LawKit
section New
variable {p : Program} {l : Launch} {e : Env} {R : Room} {s : State} {m : MethodId} {args : Array Value} {below : List Frame} {meth : Method} {c : Code} {T : State} {locs : List Loc} {cells slots : Nat}
theorem retI (X : Stand p l e R s m args below meth c T locs cells slots) (hx : p.tables.exec = Jvm.exec) {pc : Nat} {Ls : Array Slot} {z : Int32} {rest : List Value} (hret : meth.sig.returnType = some .int) (hd : decode c.code pc = .ok (.ireturn, 1)) {fs : List Frame}
    (hl : ∀ (f : JFrame) (acts : List Action), f.method = m → f.locked = none → f.entered = [] → (doReturn e (T.setTop f) acts (some (.int z))).1 = T.setFrames fs) : Steps p.tables e below (T.setTop (mkF m pc Ls (.int z :: rest))) (T.setFrames fs) := by
  have hm' : T.vm.method? m = some meth := X.method'
  have hn : narrow .int (.int z) = .int z := rfl
  show Steps p.tables e below (T.setTop { method := m, pc := pc, locals := Ls, stack := _ :: rest, locked := none }) _
  jvm_step X.here [X.here.top, hx, hd, hm', hret, hn]
  first | (intro acts; rw [hl _ acts rfl rfl rfl]) | rw [hl _ _ rfl rfl rfl]
  exact Steps.refl _
end New
end Jvm.RoadKit

/- laws to paste: Road.backV, Road.lenW, Road.codOf (cut by pick.py; bodies as the Statement names them) -/
namespace Jvm.Pilot.@@N@@
namespace StrChars
open Jvm Sem ClassFile Op Lib Jvm.Stand Jvm.Free.XT Jvm.Free.ALB Jvm.Free.JM Jvm.Free
open Jvm.Lib.Cold (StaticIs)
/-- a char array whose places are chars -/
def Ch (a : Addr) (A : Cell) (U : State) : Prop := Arr .char a A U ∧ Typed .char A
theorem Ch.mv {a : Addr} {A : Cell} {U U' : State} (h : Ch a A U) (hal : U.vm.Alike U'.vm) (hh : U'.heap = U.heap) : Ch a A U' := ⟨h.1.mv hal hh, h.2⟩
theorem Ch.keep {a : Addr} {A : Cell} {U U' : State} (h : Ch a A U) (hal : U.vm.Alike U'.vm) (hk : U'.heap[a]? = some A) : Ch a A U' := ⟨h.1.keep hal hk, h.2⟩
/-- what place i of a char[]'s cell holds -/
def cv (A : Cell) (i : Nat) : Int32 := match A.slots[i]? with | some (.int x) => x | _ => 0
theorem Ch.get {a : Addr} {A : Cell} {U : State} (h : Ch a A U) {i : Nat} (hi : i < A.slots.size) : A.slots[i]? = some (.int (cv A i)) := by
  have e := Array.getElem?_eq_getElem hi
  have f := h.2 i _ e
  unfold cv; rw [e]
  generalize A.slots[i] = v at f
  cases v <;> simp [fits] at f ⊢
/-- the byte that i2b leaves of a char -/
def lo8 (x : Int32) : Int32 := x.toInt8.toInt32
theorem fits_lo8 (y : Int32) : fits .byte (.int (lo8 y)) = true := by
  have h1 := y.toInt8.le_toInt
  have h2 := y.toInt8.toInt_lt
  simp only [lo8, fits, Bool.and_eq_true, decide_eq_true_eq, Int32.le_iff_toInt_le, Int8.toInt_toInt32, show (-128 : Int32).toInt = -128 from by decide, show (127 : Int32).toInt = 127 from by decide]
  omega
/-- A' is A but that each place j of lo .. hi - 1 holds f j -/
def Laid (A A' : Cell) (lo hi : Nat) (f : Nat → Value) : Prop := A'.cls = A.cls ∧ A'.vm = A.vm ∧ A'.slots.size = A.slots.size ∧ ∀ i, A'.slots[i]? = if lo ≤ i ∧ i < hi then some (f i) else A.slots[i]?
theorem Laid.zero (A : Cell) (lo : Nat) (f : Nat → Value) : Laid A A lo (lo + 0) f := ⟨rfl, rfl, rfl, fun i => by rw [if_neg (by omega)]⟩
theorem Laid.step {A Ak : Cell} {lo k : Nat} {f : Nat → Value} {v : Value} (h : Laid A Ak lo k f) (hlo : lo ≤ k) (hk : k < Ak.slots.size) (hv : v = f k) : Laid A (Ak.setSlot k v) lo (k + 1) f := by
  refine ⟨h.1, h.2.1, by simpa [Cell.setSlot] using h.2.2.1, fun i => ?_⟩
  by_cases e : k = i
  · subst e; rw [Cell.slots_setSlot_self v hk, if_pos (by omega), hv]
  · rw [Cell.slots_setSlot_ne v e, h.2.2.2 i]
    by_cases q : lo ≤ i ∧ i < k
    · rw [if_pos q, if_pos (by omega)]
    · rw [if_neg q, if_neg (by omega)]
def U16 : String := "java/lang/StringUTF16"
namespace Cmp5
def yN : MethodName := ⟨"java/lang/StringUTF16", "compress", "([CI[BII)I"⟩
abbrev yB : ByteArray := jdk_52_method_21_code
theorem d0 : decode yB 0 = .ok (.iconst 0, 1) := by decide +kernel
theorem d1 : decode yB 1 = .ok (.istore 5, 2) := by decide +kernel
theorem d3 : decode yB 3 = .ok (.iload 5, 2) := by decide +kernel
theorem d5 : decode yB 5 = .ok (.iload 4, 2) := by decide +kernel
theorem d7 : decode yB 7 = .ok (.if_icmp (.ge) 37, 3) := by decide +kernel
theorem d10 : decode yB 10 = .ok (.aload_n 0, 1) := by decide +kernel
theorem d11 : decode yB 11 = .ok (.iload_n 1, 1) := by decide +kernel
theorem d12 : decode yB 12 = .ok (.caload, 1) := by decide +kernel
theorem d13 : decode yB 13 = .ok (.istore 6, 2) := by decide +kernel
theorem d15 : decode yB 15 = .ok (.iload 6, 2) := by decide +kernel
theorem d17 : decode yB 17 = .ok (.sipush 255, 3) := by decide +kernel
theorem d20 : decode yB 20 = .ok (.if_icmp (.le) 6, 3) := by decide +kernel
theorem d26 : decode yB 26 = .ok (.aload_n 2, 1) := by decide +kernel
theorem d27 : decode yB 27 = .ok (.iload_n 3, 1) := by decide +kernel
theorem d28 : decode yB 28 = .ok (.iload 6, 2) := by decide +kernel
theorem d30 : decode yB 30 = .ok (.i2b, 1) := by decide +kernel
theorem d31 : decode yB 31 = .ok (.bastore, 1) := by decide +kernel
theorem d32 : decode yB 32 = .ok (.iinc 1 1, 3) := by decide +kernel
theorem d35 : decode yB 35 = .ok (.iinc 3 1, 3) := by decide +kernel
theorem d38 : decode yB 38 = .ok (.iinc 5 1, 3) := by decide +kernel
theorem d41 : decode yB 41 = .ok (.goto (-38), 3) := by decide +kernel
theorem d44 : decode yB 44 = .ok (.iload 4, 2) := by decide +kernel
theorem d46 : decode yB 46 = .ok (.ireturn, 1) := by decide +kernel
def site : List Cond := []
def tab : Cond := tabOf yN yB 7 (some .int) site
def P (b : Addr) (A : Cell) (d : Addr) (B : Cell) (o q len : Nat) (args : Array Value) (s : State) : Prop := args = #[.ref b, .int (Int32.ofNat o), .ref d, .int (Int32.ofNat q), .int (Int32.ofNat len)] ∧ Ch b A s ∧ Arr .byte d B s ∧ b ≠ d ∧ o + len ≤ A.slots.size ∧ q + len ≤ B.slots.size ∧ ∀ i, i < len → ¬ 255 < cv A (o + i)
def E (b : Addr) (A : Cell) (d : Addr) (B : Cell) (o q len : Nat) (r : Option Value) (s u : State) : Prop := r = some (.int (Int32.ofNat len)) ∧ ∃ B', Put d B' s u ∧ Laid B B' q (q + len) (fun j => Value.int (lo8 (cv A (o + (j - q)))))
/-- no char of the range above 255: len; the places written hold each char's low byte -/
theorem law (l : Launch) (b : Addr) (A : Cell) (d : Addr) (B : Cell) (o q len : Nat) : Law l yN 5 5 0 0 yB 7 (some .int) site (P b A d B o q len) (E b A d B o q len) (copyLocs d q len) 0 0 := by
  refine Law.of_walk (plainFor_of_name (by decide +kernel)) (by decide +kernel) (by decide +kernel) (by decide) (fun _ _ h => by rw [h.1]; rfl) (fun _ U U' hal hh h => ⟨h.1, h.2.1.mv hal hh, h.2.2.1.mv hal hh, h.2.2.2⟩) (fun r U U' V V' h1 hal h2 h => ⟨h.1, h.2.elim fun B' q => ⟨B', q.1.mv h1 h2, q.2⟩⟩) ?_
  intro p e s m args below meth c s₁ X0 hexec hbytes hml hret hlk hnm hown hh0 W hP
  obtain ⟨rfl, hA, hB, hne, l1, l2, hp⟩ := hP
  have c1 : Steps p.tables e below (s₁.setTop (entryFrame m #[.ref b, .int (Int32.ofNat o), .ref d, .int (Int32.ofNat q), .int (Int32.ofNat len)] 7)) (s₁.setTop (mkF m 0 #[.val (.ref b), .val (.int (Int32.ofNat o)), .val (.ref d), .val (.int (Int32.ofNat q)), .val (.int (Int32.ofNat len)), .unset, .unset] [])) := entry rfl
  have hA0 := hA.1.mv X0.warmed.alike hh0
  have hB0 := hB.mv X0.warmed.alike hh0
  have a31 := hA.1.2.2.2
  have c2 : Steps p.tables e below (s₁.setTop (entryFrame m #[.ref b, .int (Int32.ofNat o), .ref d, .int (Int32.ofNat q), .int (Int32.ofNat len)] 7)) (s₁.setTop (mkF m 3 #[.val (.ref b), .val (.int (Int32.ofNat o)), .val (.ref d), .val (.int (Int32.ofNat q)), .val (.int (Int32.ofNat len)), .val (.int 0), .unset] [])) := c1.trans (by
    refine iconstV X0.here hexec rfl 0 (hb hbytes d0) (by decide) ?_
    refine XS.istore X0.here hexec rfl (hb hbytes d1) rfl rfl ?_
    exact Steps.refl _)
  have loop : ∀ (r i : Nat), i + r = len → ∀ (z : Slot), (z = .unset ∨ ∃ w, z = .val w ∧ w.category = 1) → ∀ (Tl : State) (Bk : Cell), Stand p l e { frames := 0, locals := 0, cells := 0, slots := 0 } s m #[.ref b, .int (Int32.ofNat o), .ref d, .int (Int32.ofNat q), .int (Int32.ofNat len)] below meth c Tl ([] ++ copyLocs d q i) 0 0 → Put d Bk s₁ Tl → Laid B Bk q (q + i) (fun j => Value.int (lo8 (cv A (o + (j - q))))) →
      Steps p.tables e below (s₁.setTop (entryFrame m #[.ref b, .int (Int32.ofNat o), .ref d, .int (Int32.ofNat q), .int (Int32.ofNat len)] 7)) (Tl.setTop (mkF m 3 #[.val (.ref b), .val (.int (Int32.ofNat (o + i))), .val (.ref d), .val (.int (Int32.ofNat (q + i))), .val (.int (Int32.ofNat len)), .val (.int (Int32.ofNat i)), z] [])) → ∃ (T' : State) (B' : Cell) (z' : Slot), Stand p l e { frames := 0, locals := 0, cells := 0, slots := 0 } s m #[.ref b, .int (Int32.ofNat o), .ref d, .int (Int32.ofNat q), .int (Int32.ofNat len)] below meth c T' ([] ++ copyLocs d q len) 0 0 ∧ Put d B' s₁ T' ∧ Laid B B' q (q + len) (fun j => Value.int (lo8 (cv A (o + (j - q))))) ∧
      Steps p.tables e below (s₁.setTop (entryFrame m #[.ref b, .int (Int32.ofNat o), .ref d, .int (Int32.ofNat q), .int (Int32.ofNat len)] 7)) (T'.setTop (mkF m 3 #[.val (.ref b), .val (.int (Int32.ofNat (o + len))), .val (.ref d), .val (.int (Int32.ofNat (q + len))), .val (.int (Int32.ofNat len)), .val (.int (Int32.ofNat len)), z'] [])) := by
    intro r
    induction r with
    | zero =>
      intro i hi z hz Tl Bk Xl pl fl cl
      have hil : i = len := by omega
      rw [hil] at Xl fl cl
      exact ⟨Tl, Bk, z, Xl, pl, fl, cl⟩
    | succ r ih =>
      intro i hi z hz Tl Bk Xl pl fl cl
      have all := X0.warmed.alike.symm.trans Xl.warmed.alike
      have hAl := hA0.keep all (pl.other hne hA0.1)
      have hBk := hB0.like all pl.1 fl.1 fl.2.1 fl.2.2.1
      have hlt : q + i < Bk.slots.size := by rw [fl.2.2.1]; omega
      have c3 : Steps p.tables e below (s₁.setTop (entryFrame m #[.ref b, .int (Int32.ofNat o), .ref d, .int (Int32.ofNat q), .int (Int32.ofNat len)] 7)) (Tl.setTop (mkF m 12 #[.val (.ref b), .val (.int (Int32.ofNat (o + i))), .val (.ref d), .val (.int (Int32.ofNat (q + i))), .val (.int (Int32.ofNat len)), .val (.int (Int32.ofNat i)), z] [.int (Int32.ofNat (o + i)), .ref b])) := cl.trans (by
        refine XS.iload Xl.here hexec rfl (hb hbytes d3) rfl ?_
        refine XS.iload Xl.here hexec rfl (hb hbytes d5) rfl ?_
        refine XS.icmpNo Xl.here hexec rfl (hb hbytes d7) rfl (ii_ge_f (lt32 (by omega) (by omega))) ?_
        refine XS.aloadN Xl.here hexec rfl (hb hbytes d10) rfl rfl ?_
        refine XS.iloadN Xl.here hexec rfl (hb hbytes d11) rfl ?_
        exact Steps.refl _)
      have c4 : Steps p.tables e below (s₁.setTop (entryFrame m #[.ref b, .int (Int32.ofNat o), .ref d, .int (Int32.ofNat q), .int (Int32.ofNat len)] 7)) (Tl.setTop (mkF m 13 #[.val (.ref b), .val (.int (Int32.ofNat (o + i))), .val (.ref d), .val (.int (Int32.ofNat (q + i))), .val (.int (Int32.ofNat len)), .val (.int (Int32.ofNat i)), z] [.int (cv A (o + i))])) := c3.trans (by
        refine Xl.aget hexec hAl rfl (hA.get (i := o + i) (by omega)) rfl rfl (hb hbytes d12) ?_
        exact Steps.refl _)
      have c5 : Steps p.tables e below (s₁.setTop (entryFrame m #[.ref b, .int (Int32.ofNat o), .ref d, .int (Int32.ofNat q), .int (Int32.ofNat len)] 7)) (Tl.setTop (mkF m 15 #[.val (.ref b), .val (.int (Int32.ofNat (o + i))), .val (.ref d), .val (.int (Int32.ofNat (q + i))), .val (.int (Int32.ofNat len)), .val (.int (Int32.ofNat i)), .val (.int (cv A (o + i)))] [])) := c4.trans (by
        refine XS.istoreS Xl.here hexec rfl (hb hbytes d13) rfl rfl hz ?_
        exact Steps.refl _)
      have c6 : Steps p.tables e below (s₁.setTop (entryFrame m #[.ref b, .int (Int32.ofNat o), .ref d, .int (Int32.ofNat q), .int (Int32.ofNat len)] 7)) (Tl.setTop (mkF m 31 #[.val (.ref b), .val (.int (Int32.ofNat (o + i))), .val (.ref d), .val (.int (Int32.ofNat (q + i))), .val (.int (Int32.ofNat len)), .val (.int (Int32.ofNat i)), .val (.int (cv A (o + i)))] [.int (lo8 (cv A (o + i))), .int (Int32.ofNat (q + i)), .ref d])) := c5.trans (by
        refine XS.iload Xl.here hexec rfl (hb hbytes d15) rfl ?_
        refine sipushV Xl.here hexec rfl 255 (hb hbytes d17) (by decide) ?_
        refine XS.icmpYes Xl.here hexec rfl (pc0 := 20) rfl (hb hbytes d20) rfl (ii_le_t (hp i (by omega))) (by decide) rfl ?_
        refine XS.aloadN Xl.here hexec rfl (hb hbytes d26) rfl rfl ?_
        refine XS.iloadN Xl.here hexec rfl (hb hbytes d27) rfl ?_
        refine XS.iload Xl.here hexec rfl (hb hbytes d28) rfl ?_
        refine i2b Xl.here hexec rfl (hb hbytes d30) rfl ?_
        exact Steps.refl _)
      obtain ⟨T7, X7, p7, st7⟩ := Xl.aput hexec hBk rfl hlt rfl (fits_lo8 (cv A (o + i))) (g := (mkF m 31 #[.val (.ref b), .val (.int (Int32.ofNat (o + i))), .val (.ref d), .val (.int (Int32.ofNat (q + i))), .val (.int (Int32.ofNat len)), .val (.int (Int32.ofNat i)), .val (.int (cv A (o + i)))] [.int (lo8 (cv A (o + i))), .int (Int32.ofNat (q + i)), .ref d])) rfl (rest := []) rfl (hb hbytes d31)
      have c8 : Steps p.tables e below (s₁.setTop (entryFrame m #[.ref b, .int (Int32.ofNat o), .ref d, .int (Int32.ofNat q), .int (Int32.ofNat len)] 7)) (T7.setTop (mkF m 32 #[.val (.ref b), .val (.int (Int32.ofNat (o + i))), .val (.ref d), .val (.int (Int32.ofNat (q + i))), .val (.int (Int32.ofNat len)), .val (.int (Int32.ofNat i)), .val (.int (cv A (o + i)))] [])) := c6.trans (st7 _ (Steps.refl _))
      have c9 : Steps p.tables e below (s₁.setTop (entryFrame m #[.ref b, .int (Int32.ofNat o), .ref d, .int (Int32.ofNat q), .int (Int32.ofNat len)] 7)) (T7.setTop (mkF m 3 #[.val (.ref b), .val (.int (Int32.ofNat (o + i) + 1)), .val (.ref d), .val (.int (Int32.ofNat (q + i) + 1)), .val (.int (Int32.ofNat len)), .val (.int (Int32.ofNat i + 1)), .val (.int (cv A (o + i)))] [])) := c8.trans (by
        refine iincV X7.here hexec rfl 1 (hb hbytes d32) (by decide) rfl rfl ?_
        refine iincV X7.here hexec rfl 1 (hb hbytes d35) (by decide) rfl rfl ?_
        refine iincV X7.here hexec rfl 1 (hb hbytes d38) (by decide) rfl rfl ?_
        refine XS.goto X7.here hexec rfl (pc0 := 41) rfl (hb hbytes d41) (by decide) rfl ?_
        exact Steps.refl _)
      have c10 : Steps p.tables e below (s₁.setTop (entryFrame m #[.ref b, .int (Int32.ofNat o), .ref d, .int (Int32.ofNat q), .int (Int32.ofNat len)] 7)) (T7.setTop (mkF m 3 #[.val (.ref b), .val (.int (Int32.ofNat (o + (i + 1)))), .val (.ref d), .val (.int (Int32.ofNat (q + (i + 1)))), .val (.int (Int32.ofNat len)), .val (.int (Int32.ofNat (i + 1))), .val (.int (cv A (o + i)))] [])) := by
        have := c9
        rw [succ32, succ32, succ32] at this
        exact this
      exact ih (i + 1) (by omega) _ (Or.inr ⟨_, rfl, rfl⟩) T7 _ (by rw [copyLocs_step, ← List.append_assoc]; exact X7) (pl.trans p7) (fl.step (by omega) hlt (by simp)) c10
  obtain ⟨T9, B9, z9, X9, p9, f9, g9⟩ := loop len 0 (by omega) .unset (Or.inl rfl) s₁ B (by simpa [copyLocs] using X0) ⟨hB0.1, fun _ _ => rfl, rfl⟩ (Laid.zero _ _ _) c2
  have c11 : Steps p.tables e below (s₁.setTop (entryFrame m #[.ref b, .int (Int32.ofNat o), .ref d, .int (Int32.ofNat q), .int (Int32.ofNat len)] 7)) (T9.setTop (mkF m 46 #[.val (.ref b), .val (.int (Int32.ofNat (o + len))), .val (.ref d), .val (.int (Int32.ofNat (q + len))), .val (.int (Int32.ofNat len)), .val (.int (Int32.ofNat len)), z9] [.int (Int32.ofNat len)])) := g9.trans (by
    refine XS.iload X9.here hexec rfl (hb hbytes d3) rfl ?_
    refine XS.iload X9.here hexec rfl (hb hbytes d5) rfl ?_
    refine XS.icmpYes X9.here hexec rfl (pc0 := 7) rfl (hb hbytes d7) rfl (ii_ge_t (nlt32 (by omega) (Nat.le_refl _))) (by decide) rfl ?_
    refine XS.iload X9.here hexec rfl (hb hbytes d44) rfl ?_
    exact Steps.refl _)
  exact ⟨T9, some (.int (Int32.ofNat len)), _, _, _, X9, by simp, rfl, rfl, (fun h => by cases h), ⟨rfl, B9, p9.from hh0, f9⟩, fun fs hl => c11.trans (X9.ireturnOut hexec hret rfl (Or.inl rfl) (hb hbytes d46) hl)⟩
end Cmp5
namespace Cmp3
def yN : MethodName := ⟨"java/lang/StringUTF16", "compress", "([CII)[B"⟩
abbrev yB : ByteArray := jdk_52_method_16_code
theorem d0 : decode yB 0 = .ok (.iload_n 2, 1) := by decide +kernel
theorem d1 : decode yB 1 = .ok (.newarray .byte, 2) := by decide +kernel
theorem d3 : decode yB 3 = .ok (.astore_n 3, 1) := by decide +kernel
theorem d4 : decode yB 4 = .ok (.aload_n 0, 1) := by decide +kernel
theorem d5 : decode yB 5 = .ok (.iload_n 1, 1) := by decide +kernel
theorem d6 : decode yB 6 = .ok (.aload_n 3, 1) := by decide +kernel
theorem d7 : decode yB 7 = .ok (.iconst 0, 1) := by decide +kernel
theorem d8 : decode yB 8 = .ok (.iload_n 2, 1) := by decide +kernel
theorem d9 : decode yB 9 = .ok (.invokestatic 115, 3) := by decide +kernel
theorem d12 : decode yB 12 = .ok (.istore 4, 2) := by decide +kernel
theorem d14 : decode yB 14 = .ok (.iload 4, 2) := by decide +kernel
theorem d16 : decode yB 16 = .ok (.iload_n 2, 1) := by decide +kernel
theorem d17 : decode yB 17 = .ok (.if_icmp (.eq) 40, 3) := by decide +kernel
theorem d57 : decode yB 57 = .ok (.aload_n 3, 1) := by decide +kernel
theorem d58 : decode yB 58 = .ok (.areturn, 1) := by decide +kernel
def site : List Cond := [.arrayClass .byte, Cmp5.tab] ++ staticW U16 115 Cmp5.yN
def tab : Cond := tabOf yN yB 6 (some (.array .byte)) site
def P (b : Addr) (A : Cell) (o len : Nat) (args : Array Value) (s : State) : Prop := args = #[.ref b, .int (Int32.ofNat o), .int (Int32.ofNat len)] ∧ Ch b A s ∧ o + len ≤ A.slots.size ∧ len ≤ 536870912 ∧ ∀ i, i < len → ¬ 255 < cv A (o + i)
def E (b : Addr) (A : Cell) (o len : Nat) (r : Option Value) (s u : State) : Prop := NewArr .byte "[B" len (fun j => .int (lo8 (cv A (o + j)))) r s u ∧ u.heap.size = s.heap.size + 1
/-- no char of the range above 255: a new byte[] of their low bytes -/
theorem law (l : Launch) (b : Addr) (A : Cell) (o len : Nat) : Law l yN 3 3 1 18 yB 6 (some (.array .byte)) site (P b A o len) (E b A o len) [] 1 len := by
  refine Law.of_walk (plainFor_of_name (by decide +kernel)) (by decide +kernel) (by decide +kernel) (by decide) (fun _ _ h => by rw [h.1]; rfl) (fun _ U U' hal hh h => ⟨h.1, h.2.1.mv hal hh, h.2.2⟩) (fun r U U' V V' h1 hal h2 h => ⟨NewArr.mv r U U' V V' h1 hal h2 h.1, by rw [h1, h2]; exact h.2⟩) ?_
  intro p e s m args below meth c s₁ X0 hexec hbytes hml hret hlk hnm hown hh0 W hP
  obtain ⟨rfl, hA, l1, l2, hp⟩ := hP
  have a31 := hA.1.2.2.2
  have c1 : Steps p.tables e below (s₁.setTop (entryFrame m #[.ref b, .int (Int32.ofNat o), .int (Int32.ofNat len)] 6)) (s₁.setTop (mkF m 0 #[.val (.ref b), .val (.int (Int32.ofNat o)), .val (.int (Int32.ofNat len)), .unset, .unset, .unset] [])) := entry rfl
  have c2 : Steps p.tables e below (s₁.setTop (entryFrame m #[.ref b, .int (Int32.ofNat o), .int (Int32.ofNat len)] 6)) (s₁.setTop (mkF m 1 #[.val (.ref b), .val (.int (Int32.ofNat o)), .val (.int (Int32.ofNat len)), .unset, .unset, .unset] [.int (Int32.ofNat len)])) := c1.trans (by
    refine XS.iloadN X0.here hexec rfl (hb hbytes d0) rfl ?_
    exact Steps.refl _)
  obtain ⟨T3, B3, X3, ba3, bs3, bv3, bh3, bf3, st3⟩ := X0.anew hexec (atype := .byte) (wk W (.arrayClass .byte)) rfl (by show len * 1 ≤ _; omega) (by omega) (g := (mkF m 1 #[.val (.ref b), .val (.int (Int32.ofNat o)), .val (.int (Int32.ofNat len)), .unset, .unset, .unset] [.int (Int32.ofNat len)])) rfl (hb hbytes d1) (rest := []) rfl (Nat.le_refl _) (by show 0 + len ≤ len; omega)
  rw [hh0] at ba3 st3
  have kp3 : XT.Kept s T3 := (XT.Kept.of_eq hh0).push bh3
  have hA3 := hA.keep X3.warmed.alike (kp3 _ _ hA.1.1)
  have hne : b ≠ s.heap.size := hA.1.ne
  have c4 : Steps p.tables e below (s₁.setTop (entryFrame m #[.ref b, .int (Int32.ofNat o), .int (Int32.ofNat len)] 6)) (T3.setTop (mkF m 3 #[.val (.ref b), .val (.int (Int32.ofNat o)), .val (.int (Int32.ofNat len)), .unset, .unset, .unset] [.ref s.heap.size])) := c2.trans (st3 _ (Steps.refl _))
  have c5 : Steps p.tables e below (s₁.setTop (entryFrame m #[.ref b, .int (Int32.ofNat o), .int (Int32.ofNat len)] 6)) (T3.setTop (mkF m 9 #[.val (.ref b), .val (.int (Int32.ofNat o)), .val (.int (Int32.ofNat len)), .val (.ref s.heap.size), .unset, .unset] [.int (Int32.ofNat len), .int 0, .ref s.heap.size, .int (Int32.ofNat o), .ref b])) := c4.trans (by
    refine XS.astoreN X3.here hexec rfl (hb hbytes d3) rfl rfl rfl ?_
    refine XS.aloadN X3.here hexec rfl (hb hbytes d4) rfl rfl ?_
    refine XS.iloadN X3.here hexec rfl (hb hbytes d5) rfl ?_
    refine XS.aloadN X3.here hexec rfl (hb hbytes d6) rfl rfl ?_
    refine iconstV X3.here hexec rfl 0 (hb hbytes d7) (by decide) ?_
    refine XS.iloadN X3.here hexec rfl (hb hbytes d8) rfl ?_
    exact Steps.refl _)
  obtain ⟨v6, T6, X6, E6, g6⟩ := X3.callS hexec (Cmp5.law l b A s.heap.size B3 o 0 len) hown (wks W (staticW U16 115 Cmp5.yN)) (wk W Cmp5.tab) (W := 0) (Nat.le_of_ble_eq_true rfl) (Nat.le_of_ble_eq_true rfl) (Nat.le_refl _) (by show 0 + len + 0 ≤ len; omega) (g := (mkF m 9 #[.val (.ref b), .val (.int (Int32.ofNat o)), .val (.int (Int32.ofNat len)), .val (.ref s.heap.size), .unset, .unset] [.int (Int32.ofNat len), .int (Int32.ofNat 0), .ref s.heap.size, .int (Int32.ofNat o), .ref b])) rfl (by rw [hml]; rfl) c5 (argsL := [.ref b, .int (Int32.ofNat o), .ref s.heap.size, .int (Int32.ofNat 0), .int (Int32.ofNat len)]) (rest := []) rfl rfl (by show 2 * 0 + 0 ≤ _; decide) (hb hbytes d9) (⟨rfl, hA3, ba3, hne, l1, by rw [bs3]; simp, hp⟩)
  obtain ⟨rfl, B6, p6, f6⟩ := E6
  have c7 : Steps p.tables e below (s₁.setTop (entryFrame m #[.ref b, .int (Int32.ofNat o), .int (Int32.ofNat len)] 6)) (T6.setTop (mkF m 12 #[.val (.ref b), .val (.int (Int32.ofNat o)), .val (.int (Int32.ofNat len)), .val (.ref s.heap.size), .unset, .unset] [.int (Int32.ofNat len)])) := g6
  have c8 : Steps p.tables e below (s₁.setTop (entryFrame m #[.ref b, .int (Int32.ofNat o), .int (Int32.ofNat len)] 6)) (T6.setTop (mkF m 58 #[.val (.ref b), .val (.int (Int32.ofNat o)), .val (.int (Int32.ofNat len)), .val (.ref s.heap.size), .val (.int (Int32.ofNat len)), .unset] [.ref s.heap.size])) := c7.trans (by
    refine XS.istore X6.here hexec rfl (hb hbytes d12) rfl rfl ?_
    refine XS.iload X6.here hexec rfl (hb hbytes d14) rfl ?_
    refine XS.iloadN X6.here hexec rfl (hb hbytes d16) rfl ?_
    refine XS.icmpYes X6.here hexec rfl (pc0 := 17) rfl (hb hbytes d17) rfl (ii_eq_t rfl) (by decide) rfl ?_
    refine XS.aloadN X6.here hexec rfl (hb hbytes d57) rfl rfl ?_
    exact Steps.refl _)
  have X8 := X6.wide (L' := []) (cells' := 1) (slots' := len) (fun x hx hlt => by
    simp only [List.nil_append, copyLocs, List.mem_map, List.mem_range] at hx
    obtain ⟨i, -, rfl⟩ := hx
    exact absurd hlt (Nat.lt_irrefl _)) (Nat.le_refl _) (by omega)
  exact ⟨T6, some (.ref s.heap.size), _, _, _, X8, rfl, rfl, rfl, (fun h => by cases h), ⟨⟨rfl, B6, ba3.like (X3.warmed.alike.symm.trans X6.warmed.alike) p6.1 f6.1 f6.2.1 f6.2.2.1, f6.2.1.trans bv3, by rw [X6.warmed.alike.findClass, f6.1]; exact bf3, by rw [f6.2.2.1, bs3]; simp, fun j hj => by rw [f6.2.2.2 j, if_pos (by omega)]; rfl, kp3.put p6 (Nat.le_refl _)⟩, by rw [p6.2.2, bh3, hh0]; simp⟩, fun fs hl => c8.trans (X8.areturnOut hexec rfl hret rfl (hb hbytes d58) hl)⟩
end Cmp3
namespace CodL
def yN : MethodName := ⟨"java/lang/StringUTF16", "coderFromArrayLen", "([BI)B"⟩
abbrev yB : ByteArray := jdk_52_method_15_code
theorem d0 : decode yB 0 = .ok (.iload_n 1, 1) := by decide +kernel
theorem d1 : decode yB 1 = .ok (.aload_n 0, 1) := by decide +kernel
theorem d2 : decode yB 2 = .ok (.arraylength, 1) := by decide +kernel
theorem d3 : decode yB 3 = .ok (.isub, 1) := by decide +kernel
theorem d4 : decode yB 4 = .ok (.bipush 31, 2) := by decide +kernel
theorem d6 : decode yB 6 = .ok (.iushr, 1) := by decide +kernel
theorem d7 : decode yB 7 = .ok (.i2b, 1) := by decide +kernel
theorem d8 : decode yB 8 = .ok (.ireturn, 1) := by decide +kernel
def site : List Cond := []
def tab : Cond := tabOf yN yB 2 (some .byte) site
def P (d : Addr) (B : Cell) (args : Array Value) (s : State) : Prop := args = #[.ref d, .int (Int32.ofNat B.slots.size)] ∧ Arr .byte d B s
def E (r : Option Value) (s u : State) : Prop := XT.PureE (some (.int 0)) r s u
/-- an array as long as the number of chars: LATIN1 -/
theorem law (l : Launch) (d : Addr) (B : Cell) : Law l yN 2 2 0 0 yB 2 (some .byte) site (P d B) E [] 0 0 := by
  refine Law.of_walk (plainFor_of_name (by decide +kernel)) (by decide +kernel) (by decide +kernel) (by decide) (fun _ _ h => by rw [h.1]; rfl) (fun _ U U' hal hh h => ⟨h.1, h.2.mv hal hh⟩) (fun r U U' V V' h1 hal h2 h => XT.PureE.mv r U U' V V' h1 hal h2 h) ?_
  intro p e s m args below meth c s₁ X0 hexec hbytes hml hret hlk hnm hown hh0 W hP
  obtain ⟨rfl, hB⟩ := hP
  have hB0 := hB.mv X0.warmed.alike hh0
  have c1 : Steps p.tables e below (s₁.setTop (entryFrame m #[.ref d, .int (Int32.ofNat B.slots.size)] 2)) (s₁.setTop (mkF m 0 #[.val (.ref d), .val (.int (Int32.ofNat B.slots.size))] [])) := entry rfl
  have c2 : Steps p.tables e below (s₁.setTop (entryFrame m #[.ref d, .int (Int32.ofNat B.slots.size)] 2)) (s₁.setTop (mkF m 2 #[.val (.ref d), .val (.int (Int32.ofNat B.slots.size))] [.ref d, .int (Int32.ofNat B.slots.size)])) := c1.trans (by
    refine XS.iloadN X0.here hexec rfl (hb hbytes d0) rfl ?_
    refine XS.aloadN X0.here hexec rfl (hb hbytes d1) rfl rfl ?_
    exact Steps.refl _)
  have c3 : Steps p.tables e below (s₁.setTop (entryFrame m #[.ref d, .int (Int32.ofNat B.slots.size)] 2)) (s₁.setTop (mkF m 8 #[.val (.ref d), .val (.int (Int32.ofNat B.slots.size))] [.int (lo8 (ushr (Int32.ofNat B.slots.size - Int32.ofNat B.slots.size) 31))])) := c2.trans (by
    refine X0.alen hexec hB0 rfl rfl (hb hbytes d2) ?_
    refine XS.isub X0.here hexec rfl (hb hbytes d3) rfl ?_
    refine bipushV X0.here hexec rfl 31 (hb hbytes d4) (by decide) ?_
    refine iushr X0.here hexec rfl (hb hbytes d6) rfl ?_
    refine i2b X0.here hexec rfl (hb hbytes d7) rfl ?_
    exact Steps.refl _)
  have e0 : lo8 (ushr (Int32.ofNat B.slots.size - Int32.ofNat B.slots.size) 31) = 0 := by rw [Int32.sub_self]; decide
  rw [e0] at c3
  exact ⟨s₁, some (.int 0), _, _, _, X0, rfl, rfl, rfl, (fun h => by cases h), ⟨rfl, hh0⟩, fun fs hl => c3.trans (X0.ireturnOut hexec hret rfl (Or.inr (Or.inr (Or.inl rfl))) (hb hbytes d8) hl)⟩
end CodL
/-- the String at a is Latin-1 over a new byte[] (the heap's one new cell): the low bytes of the len chars of A from o on; every cell but a is kept -/
def Got (a : Addr) (D : Cell) (fV fC : Field) (A : Cell) (o len : Nat) (r : Option Value) (s u : State) : Prop := r = none ∧ ∃ D' V : Cell, Blank "java/lang/String" a D' u ∧ Same D D' [fV.slot, fC.slot] ∧ D'.slots[fV.slot]? = some (.ref s.heap.size) ∧ D'.slots[fC.slot]? = some (.int 0) ∧ Arr .byte s.heap.size V u ∧ V.vm = .none ∧ u.vm.findClass "[B" = some V.cls ∧ V.slots.size = len ∧ (∀ j, j < len → V.slots[j]? = some (.int (lo8 (cv A (o + j))))) ∧ (∀ (y : Addr) (c : Cell), y ≠ a → s.heap[y]? = some c → u.heap[y]? = some c) ∧ u.heap.size = s.heap.size + 1
theorem Got.mv {a : Addr} {D A : Cell} {fV fC : Field} {o len : Nat} : ∀ r (U U' V V' : State), U'.heap = U.heap → V.vm.Alike V'.vm → V'.heap = V.heap → Got a D fV fC A o len r U V → Got a D fV fC A o len r U' V' :=
  fun r U U' V V' h1 hal h2 ⟨e0, D', X, a1, a2, a3, a4, a5, a6, a7, a8, a9, a10, a11⟩ => ⟨e0, D', X, a1.mv hal h2, a2, by rw [h1]; exact a3, a4, by rw [h1]; exact a5.mv hal h2, a6, by rw [hal.findClass]; exact a7, a8, a9, by rw [h1, h2]; exact a10, by rw [h1, h2]; exact a11⟩
namespace New4
def yN : MethodName := ⟨"java/lang/String", "<init>", "([CIILjava/lang/Void;)V"⟩
abbrev yB : ByteArray := jdk_42_method_149_code
theorem d0 : decode yB 0 = .ok (.aload_n 0, 1) := by decide +kernel
theorem d1 : decode yB 1 = .ok (.invokespecial 1, 3) := by decide +kernel
theorem d4 : decode yB 4 = .ok (.iload_n 3, 1) := by decide +kernel
theorem d5 : decode yB 5 = .ok (.ifCond (.ne) 22, 3) := by decide +kernel
theorem d27 : decode yB 27 = .ok (.getstatic 38, 3) := by decide +kernel
theorem d30 : decode yB 30 = .ok (.ifCond (.eq) 28, 3) := by decide +kernel
theorem d33 : decode yB 33 = .ok (.aload_n 1, 1) := by decide +kernel
theorem d34 : decode yB 34 = .ok (.iload_n 2, 1) := by decide +kernel
theorem d35 : decode yB 35 = .ok (.iload_n 3, 1) := by decide +kernel
theorem d36 : decode yB 36 = .ok (.invokestatic 177, 3) := by decide +kernel
theorem d39 : decode yB 39 = .ok (.astore 5, 2) := by decide +kernel
theorem d41 : decode yB 41 = .ok (.aload_n 0, 1) := by decide +kernel
theorem d42 : decode yB 42 = .ok (.aload 5, 2) := by decide +kernel
theorem d44 : decode yB 44 = .ok (.iload_n 3, 1) := by decide +kernel
theorem d45 : decode yB 45 = .ok (.invokestatic 47, 3) := by decide +kernel
theorem d48 : decode yB 48 = .ok (.putfield 15, 3) := by decide +kernel
theorem d51 : decode yB 51 = .ok (.aload_n 0, 1) := by decide +kernel
theorem d52 : decode yB 52 = .ok (.aload 5, 2) := by decide +kernel
theorem d54 : decode yB 54 = .ok (.putfield 9, 3) := by decide +kernel
theorem d57 : decode yB 57 = .ok (.return_, 1) := by decide +kernel
def site : List Cond := [.fieldLink "java/lang/String" 38 "java/lang/String" "COMPACT_STRINGS" "Z", Cmp3.tab, CodL.tab, .laysFinal "java/lang/String" "java/lang/String" "value" "[B", .fieldLink "java/lang/String" 9 "java/lang/String" "value" "[B", .laysFinal "java/lang/String" "java/lang/String" "coder" "B", .fieldLink "java/lang/String" 15 "java/lang/String" "coder" "B"] ++ objW "java/lang/String" 1 ++ staticW "java/lang/String" 177 Cmp3.yN ++ staticW "java/lang/String" 47 CodL.yN
def tab : Cond := tabOf yN yB 6 none site
def P (a : Addr) (D : Cell) (fV fC : Field) (b : Addr) (A : Cell) (z : Int32) (o len : Nat) (args : Array Value) (s : State) : Prop := args = #[.ref a, .ref b, .int (Int32.ofNat o), .int (Int32.ofNat len), .null] ∧ Blank "java/lang/String" a D s ∧ Found "java/lang/String" "value" "[B" fV s ∧ Found "java/lang/String" "coder" "B" fC s ∧ Ch b A s ∧ StaticIs s "java/lang/String" "COMPACT_STRINGS" "Z" (.int z) ∧ ¬ z = 0 ∧ 0 < len ∧ o + len ≤ A.slots.size ∧ len ≤ 536870912 ∧ ∀ i, i < len → ¬ 255 < cv A (o + i)
def E (a : Addr) (D : Cell) (fV fC : Field) (A : Cell) (o len : Nat) (r : Option Value) (s u : State) : Prop := Got a D fV fC A o len r s u
/-- len > 0, no char of the range above 255: a Latin-1 String of their low bytes -/
theorem law (l : Launch) (a : Addr) (D : Cell) (fV fC : Field) (b : Addr) (A : Cell) (z : Int32) (o len : Nat) : Law l yN 5 4 2 35 yB 6 none site (P a D fV fC b A z o len) (E a D fV fC A o len) [⟨a, fC.slot⟩, ⟨a, fV.slot⟩] 1 len := by
  refine Law.of_walk (plainFor_of_name (by decide +kernel)) (by decide +kernel) (by decide +kernel) (by decide) (fun _ _ h => by rw [h.1]; rfl) (fun _ U U' hal hh h => ⟨h.1, h.2.1.mv hal hh, h.2.2.1.al hal, h.2.2.2.1.al hal, h.2.2.2.2.1.mv hal hh, h.2.2.2.2.2.1.there hal hh, h.2.2.2.2.2.2⟩) (fun r U U' V V' h1 hal h2 h => Got.mv r U U' V V' h1 hal h2 h) ?_
  intro p e s m args below meth c s₁ X0 hexec hbytes hml hret hlk hnm hown hh0 W hP
  obtain ⟨rfl, hB, f1, f2, hA, s1, hz, l0, l1, l2, hp⟩ := hP
  have a31 := hA.1.2.2.2
  have c1 : Steps p.tables e below (s₁.setTop (entryFrame m #[.ref a, .ref b, .int (Int32.ofNat o), .int (Int32.ofNat len), .null] 6)) (s₁.setTop (mkF m 0 #[.val (.ref a), .val (.ref b), .val (.int (Int32.ofNat o)), .val (.int (Int32.ofNat len)), .val .null, .unset] [])) := entry rfl
  have c2 : Steps p.tables e below (s₁.setTop (entryFrame m #[.ref a, .ref b, .int (Int32.ofNat o), .int (Int32.ofNat len), .null] 6)) (s₁.setTop (mkF m 1 #[.val (.ref a), .val (.ref b), .val (.int (Int32.ofNat o)), .val (.int (Int32.ofNat len)), .val .null, .unset] [.ref a])) := c1.trans (by
    refine XS.aloadN X0.here hexec rfl (hb hbytes d0) rfl rfl ?_
    exact Steps.refl _)
  obtain ⟨T3, X3, q3, st3⟩ := X0.oinit hexec hown (wks W (objW "java/lang/String" 1)) (g := (mkF m 1 #[.val (.ref a), .val (.ref b), .val (.int (Int32.ofNat o)), .val (.int (Int32.ofNat len)), .val .null, .unset] [.ref a])) rfl (by rw [hml]; rfl) (rest := []) rfl (hb hbytes d1) (W := 0) (by show 2 * 0 + 0 ≤ _; decide) (Nat.le_of_ble_eq_true rfl) (Nat.le_of_ble_eq_true rfl)
  have hh3 := q3.trans hh0
  have c4 : Steps p.tables e below (s₁.setTop (entryFrame m #[.ref a, .ref b, .int (Int32.ofNat o), .int (Int32.ofNat len), .null] 6)) (T3.setTop (mkF m 27 #[.val (.ref a), .val (.ref b), .val (.int (Int32.ofNat o)), .val (.int (Int32.ofNat len)), .val .null, .unset] [])) := (c2.trans (st3 _ (Steps.refl _))).trans (by
    refine XS.iloadN X3.here hexec rfl (hb hbytes d4) rfl ?_
    refine XS.ifYes X3.here hexec rfl (pc0 := 5) rfl (hb hbytes d5) rfl (i0_ne_t (nz32 (by omega) l0)) (by decide) rfl ?_
    exact Steps.refl _)
  obtain ⟨T5, X5, q5, st5⟩ := X3.sget hexec hown (wk W (.fieldLink "java/lang/String" 38 "java/lang/String" "COMPACT_STRINGS" "Z")) s1 (fun _ _ h => by rw [hh3]; exact h) (g := (mkF m 27 #[.val (.ref a), .val (.ref b), .val (.int (Int32.ofNat o)), .val (.int (Int32.ofNat len)), .val .null, .unset] [])) rfl (hb hbytes d27)
  have hh5 := q5.trans hh3
  have c6 : Steps p.tables e below (s₁.setTop (entryFrame m #[.ref a, .ref b, .int (Int32.ofNat o), .int (Int32.ofNat len), .null] 6)) (T5.setTop (mkF m 30 #[.val (.ref a), .val (.ref b), .val (.int (Int32.ofNat o)), .val (.int (Int32.ofNat len)), .val .null, .unset] [.int z])) := c4.trans (st5 _ (Steps.refl _))
  have c7 : Steps p.tables e below (s₁.setTop (entryFrame m #[.ref a, .ref b, .int (Int32.ofNat o), .int (Int32.ofNat len), .null] 6)) (T5.setTop (mkF m 36 #[.val (.ref a), .val (.ref b), .val (.int (Int32.ofNat o)), .val (.int (Int32.ofNat len)), .val .null, .unset] [.int (Int32.ofNat len), .int (Int32.ofNat o), .ref b])) := c6.trans (by
    refine XS.ifNo X5.here hexec rfl (hb hbytes d30) rfl (i0_eq_f hz) ?_
    refine XS.aloadN X5.here hexec rfl (hb hbytes d33) rfl rfl ?_
    refine XS.iloadN X5.here hexec rfl (hb hbytes d34) rfl ?_
    refine XS.iloadN X5.here hexec rfl (hb hbytes d35) rfl ?_
    exact Steps.refl _)
  obtain ⟨v8, T8, X8, E8, g8⟩ := X5.callS hexec (Cmp3.law l b A o len) hown (wks W (staticW "java/lang/String" 177 Cmp3.yN)) (wk W Cmp3.tab) (W := 0) (Nat.le_of_ble_eq_true rfl) (Nat.le_of_ble_eq_true rfl) (Nat.le_refl _) (by show 0 + len ≤ len; omega) (g := (mkF m 36 #[.val (.ref a), .val (.ref b), .val (.int (Int32.ofNat o)), .val (.int (Int32.ofNat len)), .val .null, .unset] [.int (Int32.ofNat len), .int (Int32.ofNat o), .ref b])) rfl (by rw [hml]; rfl) c7 (argsL := [.ref b, .int (Int32.ofNat o), .int (Int32.ofNat len)]) (rest := []) rfl rfl (by show 2 * 0 + 0 ≤ _; decide) (hb hbytes d36) (⟨rfl, hA.mv X5.warmed.alike hh5, l1, l2, hp⟩)
  obtain ⟨e8, z8⟩ := E8
  obtain ⟨rfl, N, n1, n2, n3, n4, n5, n6⟩ := NewArr.mv _ T5 s _ _ hh5.symm (Vm.Alike.refl _) rfl e8
  rw [hh5] at z8
  have hB1 := hB.keep X8.warmed.alike (n6 _ _ hB.1)
  have hne : s.heap.size ≠ a := (Nat.ne_of_lt (Array.getElem?_eq_some_iff.mp hB.1).1).symm
  have c9 : Steps p.tables e below (s₁.setTop (entryFrame m #[.ref a, .ref b, .int (Int32.ofNat o), .int (Int32.ofNat len), .null] 6)) (T8.setTop (mkF m 39 #[.val (.ref a), .val (.ref b), .val (.int (Int32.ofNat o)), .val (.int (Int32.ofNat len)), .val .null, .unset] [.ref s.heap.size])) := g8
  have c10 : Steps p.tables e below (s₁.setTop (entryFrame m #[.ref a, .ref b, .int (Int32.ofNat o), .int (Int32.ofNat len), .null] 6)) (T8.setTop (mkF m 45 #[.val (.ref a), .val (.ref b), .val (.int (Int32.ofNat o)), .val (.int (Int32.ofNat len)), .val .null, .val (.ref s.heap.size)] [.int (Int32.ofNat N.slots.size), .ref s.heap.size, .ref a])) := by
    have hc : Steps p.tables e below (s₁.setTop (entryFrame m #[.ref a, .ref b, .int (Int32.ofNat o), .int (Int32.ofNat len), .null] 6)) (T8.setTop (mkF m 45 #[.val (.ref a), .val (.ref b), .val (.int (Int32.ofNat o)), .val (.int (Int32.ofNat len)), .val .null, .val (.ref s.heap.size)] [.int (Int32.ofNat len), .ref s.heap.size, .ref a])) := c9.trans (by
      refine XS.astore X8.here hexec rfl (hb hbytes d39) rfl rfl rfl ?_
      refine XS.aloadN X8.here hexec rfl (hb hbytes d41) rfl rfl ?_
      refine XS.aload X8.here hexec rfl (hb hbytes d42) rfl rfl ?_
      refine XS.iloadN X8.here hexec rfl (hb hbytes d44) rfl ?_
      exact Steps.refl _)
    rw [n4]; exact hc
  obtain ⟨v11, T11, X11, E11, g11⟩ := X8.callS hexec (CodL.law l s.heap.size N) hown (wks W (staticW "java/lang/String" 47 CodL.yN)) (wk W CodL.tab) (W := 1) (Nat.le_of_ble_eq_true rfl) (Nat.le_of_ble_eq_true rfl) (Nat.le_refl _) (by show 0 + len + 0 ≤ len; omega) (g := (mkF m 45 #[.val (.ref a), .val (.ref b), .val (.int (Int32.ofNat o)), .val (.int (Int32.ofNat len)), .val .null, .val (.ref s.heap.size)] [.int (Int32.ofNat N.slots.size), .ref s.heap.size, .ref a])) rfl (by rw [hml]; rfl) c10 (argsL := [.ref s.heap.size, .int (Int32.ofNat N.slots.size)]) (rest := [.ref a]) rfl rfl (by show 2 * 0 + (1 + 0) ≤ _; decide) (hb hbytes d45) (⟨rfl, n1⟩)
  obtain ⟨rfl, q11⟩ := E11
  have hB11 := hB1.mv (X8.warmed.alike.symm.trans X11.warmed.alike) q11
  have c12 : Steps p.tables e below (s₁.setTop (entryFrame m #[.ref a, .ref b, .int (Int32.ofNat o), .int (Int32.ofNat len), .null] 6)) (T11.setTop (mkF m 48 #[.val (.ref a), .val (.ref b), .val (.int (Int32.ofNat o)), .val (.int (Int32.ofNat len)), .val .null, .val (.ref s.heap.size)] [.int 0, .ref a])) := g11
  obtain ⟨T13, X13, p13, bl13, sl13, st13⟩ := X11.finit hexec hown (wk W (.fieldLink "java/lang/String" 15 "java/lang/String" "coder" "B")) (Or.inr ⟨_, (wk W (.laysFinal "java/lang/String" "java/lang/String" "coder" "B"))⟩) (Or.inl ⟨rfl, hnm⟩) f2 (Or.inl rfl) hB11 (t := .byte) (by decide +kernel) rfl (g := (mkF m 48 #[.val (.ref a), .val (.ref b), .val (.int (Int32.ofNat o)), .val (.int (Int32.ofNat len)), .val .null, .val (.ref s.heap.size)] [.int 0, .ref a])) rfl (rest := []) rfl (hb hbytes d48)
  have c14 : Steps p.tables e below (s₁.setTop (entryFrame m #[.ref a, .ref b, .int (Int32.ofNat o), .int (Int32.ofNat len), .null] 6)) (T13.setTop (mkF m 54 #[.val (.ref a), .val (.ref b), .val (.int (Int32.ofNat o)), .val (.int (Int32.ofNat len)), .val .null, .val (.ref s.heap.size)] [.ref s.heap.size, .ref a])) := (c12.trans (st13 _ (Steps.refl _))).trans (by
    refine XS.aloadN X13.here hexec rfl (hb hbytes d51) rfl rfl ?_
    refine XS.aload X13.here hexec rfl (hb hbytes d52) rfl rfl ?_
    exact Steps.refl _)
  obtain ⟨T15, X15, p15, bl15, sl15, st15⟩ := X13.finit hexec hown (wk W (.fieldLink "java/lang/String" 9 "java/lang/String" "value" "[B")) (Or.inr ⟨_, (wk W (.laysFinal "java/lang/String" "java/lang/String" "value" "[B"))⟩) (Or.inl ⟨rfl, hnm⟩) f1 (Or.inl rfl) bl13 (t := (.array .byte)) (by decide +kernel) rfl (g := (mkF m 54 #[.val (.ref a), .val (.ref b), .val (.int (Int32.ofNat o)), .val (.int (Int32.ofNat len)), .val .null, .val (.ref s.heap.size)] [.ref s.heap.size, .ref a])) rfl (rest := []) rfl (hb hbytes d54)
  have c16 : Steps p.tables e below (s₁.setTop (entryFrame m #[.ref a, .ref b, .int (Int32.ofNat o), .int (Int32.ofNat len), .null] 6)) (T15.setTop (mkF m 57 #[.val (.ref a), .val (.ref b), .val (.int (Int32.ofNat o)), .val (.int (Int32.ofNat len)), .val .null, .val (.ref s.heap.size)] [])) := c14.trans (st15 _ (Steps.refl _))
  have ap := apart (Or.inr ⟨_, (wk W (.laysFinal "java/lang/String" "java/lang/String" "value" "[B"))⟩) (Or.inr ⟨_, (wk W (.laysFinal "java/lang/String" "java/lang/String" "coder" "B"))⟩) f1 f2 (t₁ := .array .byte) (t₂ := .byte) (by decide +kernel) (by decide +kernel) (by decide)
  have al := X8.warmed.alike.symm.trans X15.warmed.alike
  have n7 : T11.heap[s.heap.size]? = some N := by rw [q11]; exact n1.1
  exact ⟨T15, none, _, _, _, X15, by simp, rfl, by omega, (fun _ => rfl), ⟨rfl, _, N, bl15, ((Same.refl D _).set _ (by simp)).set _ (by simp), sl15, (Cell.slots_setSlot_ne _ ap).trans sl13, n1.keep al (p15.other hne (p13.other hne n7)), n2, by rw [al.findClass]; exact n3, n4, n5, fun y c h1 h2 => p15.other h1 (p13.other h1 (by rw [q11]; exact n6 y c h2)), by rw [p15.2.2, p13.2.2, q11]; exact z8⟩, fun fs hl => c16.trans (X15.returnOut hexec hret (hb hbytes d57) hl)⟩
end New4
namespace New1
def yN : MethodName := ⟨"java/lang/String", "<init>", "([C)V"⟩
abbrev yB : ByteArray := jdk_42_method_3_code
theorem d0 : decode yB 0 = .ok (.aload_n 0, 1) := by decide +kernel
theorem d1 : decode yB 1 = .ok (.aload_n 1, 1) := by decide +kernel
theorem d2 : decode yB 2 = .ok (.iconst 0, 1) := by decide +kernel
theorem d3 : decode yB 3 = .ok (.aload_n 1, 1) := by decide +kernel
theorem d4 : decode yB 4 = .ok (.arraylength, 1) := by decide +kernel
theorem d5 : decode yB 5 = .ok (.aconst_null, 1) := by decide +kernel
theorem d6 : decode yB 6 = .ok (.invokespecial 27, 3) := by decide +kernel
theorem d9 : decode yB 9 = .ok (.return_, 1) := by decide +kernel
def site : List Cond := [New4.tab] ++ initW "java/lang/String" 27 New4.yN
def tab : Cond := tabOf yN yB 2 none site
def P (a : Addr) (D : Cell) (fV fC : Field) (b : Addr) (A : Cell) (z : Int32) (args : Array Value) (s : State) : Prop := args = #[.ref a, .ref b] ∧ Blank "java/lang/String" a D s ∧ Found "java/lang/String" "value" "[B" fV s ∧ Found "java/lang/String" "coder" "B" fC s ∧ Ch b A s ∧ StaticIs s "java/lang/String" "COMPACT_STRINGS" "Z" (.int z) ∧ ¬ z = 0 ∧ 0 < A.slots.size ∧ A.slots.size ≤ 536870912 ∧ ∀ i, i < A.slots.size → ¬ 255 < cv A i
def E (a : Addr) (D : Cell) (fV fC : Field) (A : Cell) (r : Option Value) (s u : State) : Prop := Got a D fV fC A 0 A.slots.size r s u
/-- new String(chars), not empty, no char above 255: a Latin-1 String of their low bytes -/
theorem law (l : Launch) (a : Addr) (D : Cell) (fV fC : Field) (b : Addr) (A : Cell) (z : Int32) : Law l yN 2 1 3 52 yB 2 none site (P a D fV fC b A z) (E a D fV fC A) [⟨a, fC.slot⟩, ⟨a, fV.slot⟩] 1 A.slots.size := by
  refine Law.of_walk (plainFor_of_name (by decide +kernel)) (by decide +kernel) (by decide +kernel) (by decide) (fun _ _ h => by rw [h.1]; rfl) (fun _ U U' hal hh h => ⟨h.1, h.2.1.mv hal hh, h.2.2.1.al hal, h.2.2.2.1.al hal, h.2.2.2.2.1.mv hal hh, h.2.2.2.2.2.1.there hal hh, h.2.2.2.2.2.2⟩) (fun r U U' V V' h1 hal h2 h => Got.mv r U U' V V' h1 hal h2 h) ?_
  intro p e s m args below meth c s₁ X0 hexec hbytes hml hret hlk hnm hown hh0 W hP
  obtain ⟨rfl, hB, f1, f2, hA, s1, hz, l0, l2, hp⟩ := hP
  have c1 : Steps p.tables e below (s₁.setTop (entryFrame m #[.ref a, .ref b] 2)) (s₁.setTop (mkF m 0 #[.val (.ref a), .val (.ref b)] [])) := entry rfl
  have c2 : Steps p.tables e below (s₁.setTop (entryFrame m #[.ref a, .ref b] 2)) (s₁.setTop (mkF m 6 #[.val (.ref a), .val (.ref b)] [.null, .int (Int32.ofNat A.slots.size), .int 0, .ref b, .ref a])) := c1.trans (by
    refine XS.aloadN X0.here hexec rfl (hb hbytes d0) rfl rfl ?_
    refine XS.aloadN X0.here hexec rfl (hb hbytes d1) rfl rfl ?_
    refine iconstV X0.here hexec rfl 0 (hb hbytes d2) (by decide) ?_
    refine XS.aloadN X0.here hexec rfl (hb hbytes d3) rfl rfl ?_
    refine X0.alen hexec (hA.1.mv X0.warmed.alike hh0) rfl rfl (hb hbytes d4) ?_
    refine XS.aconstNull X0.here hexec rfl (hb hbytes d5) ?_
    exact Steps.refl _)
  obtain ⟨v3, T3, X3, E3, g3⟩ := X0.callN hexec (New4.law l a D fV fC b A z 0 A.slots.size) rfl hown (wks W (initW "java/lang/String" 27 New4.yN)) (W New4.tab (by simp only [site, List.mem_cons, List.mem_append, true_or, or_true])) (W := 0) (Nat.le_of_ble_eq_true rfl) (Nat.le_of_ble_eq_true rfl) (Nat.le_refl _) (by show 0 + A.slots.size ≤ A.slots.size; omega) (g := (mkF m 6 #[.val (.ref a), .val (.ref b)] [.null, .int (Int32.ofNat A.slots.size), .int (Int32.ofNat 0), .ref b, .ref a])) rfl (by rw [hml]; rfl) c2 (argsL := [.ref b, .int (Int32.ofNat 0), .int (Int32.ofNat A.slots.size), .null]) (rest := []) rfl rfl (by show 2 * 0 + 0 ≤ _; decide) (hb hbytes d6) (⟨rfl, hB.mv X0.warmed.alike hh0, f1.al X0.warmed.alike, f2.al X0.warmed.alike, hA.mv X0.warmed.alike hh0, s1.there X0.warmed.alike hh0, hz, l0, by omega, l2, fun i hi => by rw [Nat.zero_add]; exact hp i hi⟩)
  have e0 := Got.mv _ s₁ s _ _ hh0.symm (Vm.Alike.refl _) rfl E3
  obtain rfl := e0.1
  have c4 : Steps p.tables e below (s₁.setTop (entryFrame m #[.ref a, .ref b] 2)) (T3.setTop (mkF m 9 #[.val (.ref a), .val (.ref b)] [])) := g3
  exact ⟨T3, none, _, _, _, X3, by simp, rfl, by omega, (fun _ => rfl), e0, fun fs hl => c4.trans (X3.returnOut hexec hret (hb hbytes d9) hl)⟩
theorem pays {l : Launch} {R : Room} {p : Program} {e : Env} {below : List Frame} {s : State} {sargs : Array Value} {len W : Nat} (a : Addr) (D : Cell) (fV fC : Field) (b : Addr) (A : Cell) (z : Int32) (htab : tab.before sargs s = true) (hfr : 4 ≤ R.frames) (hlo : W + 65 ≤ R.locals) :
    Back l R p e below s sargs yN len W (fun A₁ a₁ => A₁.cells + 1 ≤ R.cells ∧ A₁.slots + A.slots.size ≤ R.slots ∧ P a D fV fC b A z a₁ A₁.U) (fun A₁ _ v₁ B₁ => E a D fV fC A v₁ A₁.U B₁.U ∧ B₁.locs = A₁.locs ++ [⟨a, fC.slot⟩, ⟨a, fV.slot⟩] ∧ B₁.cells = A₁.cells + 1 ∧ B₁.slots = A₁.slots + A.slots.size) :=
  (law l a D fV fC b A z).pays htab hfr (by omega)
end New1
end StrChars
namespace StrChars.Road
open Jvm Sem ClassFile Op Lib Jvm.Stand Jvm.Free Jvm.Free.XT
open Jvm.Lib.Cold (StaticIs)
abbrev ST : String := "java/lang/String"
/-- every table word that New1's law asks, flat -/
abbrev words : List Jvm.Cond := [.code New1.yN New1.yB 2 none, .initialized ST, .methodLink ST 27 New4.yN, .instanceMethod New4.yN,
  .code New4.yN New4.yB 6 none, .fieldLink ST 38 ST "COMPACT_STRINGS" "Z", .laysFinal ST ST "value" "[B", .fieldLink ST 9 ST "value" "[B", .laysFinal ST ST "coder" "B", .fieldLink ST 15 ST "coder" "B",
  .methodLink ST 1 Lib.objectInit, .instanceMethod Lib.objectInit, .code Lib.objectInit ⟨#[0xb1]⟩ 1 none, .methodLink ST 177 Cmp3.yN, .static Cmp3.yN, .methodLink ST 47 CodL.yN, .static CodL.yN,
  .code Cmp3.yN Cmp3.yB 6 (some (.array .byte)), .initialized U16, .arrayClass .byte, .methodLink U16 115 Cmp5.yN, .static Cmp5.yN, .code Cmp5.yN Cmp5.yB 7 (some .int), .code CodL.yN CodL.yB 2 (some .byte)]
theorem tab_of {a : Array Value} {s : State} (h : ∀ w ∈ words, w.before a s = true) : New1.tab.before a s = true := by
  have h5 : Cmp5.tab.before a s = true := unparts (wk h (.code Cmp5.yN Cmp5.yB 7 (some .int))) (wks h (.initialized Cmp5.yN.cls :: Cmp5.site))
  have hc : CodL.tab.before a s = true := unparts (wk h (.code CodL.yN CodL.yB 2 (some .byte))) (wks h (.initialized CodL.yN.cls :: CodL.site))
  have q5 : ∀ w ∈ Cmp5.tab :: words, w.before a s = true := fun w hw => (List.mem_cons.mp hw).elim (fun e => e ▸ h5) (h w)
  have h3 : Cmp3.tab.before a s = true := unparts (wk q5 (.code Cmp3.yN Cmp3.yB 6 (some (.array .byte)))) (wks q5 (.initialized Cmp3.yN.cls :: Cmp3.site))
  have q3 : ∀ w ∈ Cmp3.tab :: CodL.tab :: words, w.before a s = true := fun w hw => (List.mem_cons.mp hw).elim (fun e => e ▸ h3) fun hw => (List.mem_cons.mp hw).elim (fun e => e ▸ hc) (h w)
  have h4 : New4.tab.before a s = true := unparts (wk q3 (.code New4.yN New4.yB 6 none)) (wks q3 (.initialized New4.yN.cls :: New4.site))
  have q4 : ∀ w ∈ New4.tab :: words, w.before a s = true := fun w hw => (List.mem_cons.mp hw).elim (fun e => e ▸ h4) (h w)
  exact unparts (wk q4 (.code New1.yN New1.yB 2 none)) (wks q4 (.initialized New1.yN.cls :: New1.site))
/-- the words ride from the start Z to the walk's own state -/
theorem moved {Z s : State} {a0 args : Array Value} (hZ : Z.Warmed39 s.vm) (hw : ∀ d ∈ words, d.before a0 Z = true) : ∀ d ∈ words, d.before args s = true := fun d hd => by
  have q := hw d hd
  have t : ∀ d ∈ words, d = .arrayClass .byte ∨ (d.onTables && d.keepsFace) = true := by decide +kernel
  rcases t d hd with rfl | t
  · exact RoadKit.mvA hZ q
  · exact RoadKit.mv hZ q t
/-- WHAT COMES BACK, over the tables of the start Z: h the heap at the call, h' behind it -/
def Q (Z : State) (x : Addr) (A : Cell) (h : Heap) (v : Option Value) (h' : Heap) (L : List Loc) : Prop := v = none ∧ (∀ y ∈ L, y.base = x) ∧ RoadKit.Keep h h' [x] ∧ h'.size = h.size + 1 ∧ RoadKit.Exa Z h' x ST ∧ RoadKit.Fld Z h' x ST "value" "[B" (.ref h.size) ∧ RoadKit.Fld Z h' x ST "coder" "B" (.int 0) ∧
  (∃ V : Cell, RoadKit.Arr Z h' h.size V .byte ∧ V.vm = .none ∧ Z.vm.findClass "[B" = some V.cls ∧ V.slots.size = A.slots.size ∧ ∀ j, j < A.slots.size → V.slots[j]? = some (.int (lo8 (cv A j)))) ∧
  ∀ (O n d : String) (w : Value), RoadKit.Fld Z h x O n d w → RoadKit.slotOf Z O n d ≠ RoadKit.slotOf Z ST "value" "[B" → RoadKit.slotOf Z O n d ≠ RoadKit.slotOf Z ST "coder" "B" → RoadKit.Fld Z h' x O n d w
/-- **new String(chars) AT A CALL, IN THE ROAD'S FORM**: for specialBack behind newO: x the fresh String, b the char[] with the cell A -/
theorem back {p : Program} {l : Launch} {e : Env} {R : Room} {s : State} {args : Array Value} {below : List Frame} {len W : Nat} {Z : State} {a0 : Array Value} {h : Heap} (hZ : Z.Warmed39 s.vm) (hw : ∀ d ∈ words, d.before a0 Z = true) {kI : Nat} (wi : (Jvm.Cond.instantiable ST kI).before a0 Z = true)
    {x b : Addr} {A : Cell} {z : Int32} {v0 c0 : Value} (E : RoadKit.Exa Z h x ST) (V : RoadKit.Fld Z h x ST "value" "[B" v0) (C : RoadKit.Fld Z h x ST "coder" "B" c0) (K : RoadKit.Arr Z h b A .char) (hty : Typed .char A) (S : RoadKit.Sta Z h ST "COMPACT_STRINGS" "Z" (.int z)) (hz : ¬ z = 0)
    (l0 : 0 < A.slots.size) (l2 : A.slots.size ≤ 536870912) (hp : ∀ i, i < A.slots.size → ¬ 255 < cv A i) (hfr : 4 ≤ R.frames) (hlo : W + 65 ≤ R.locals) :
    Back l R p e below s args New1.yN len W (fun P a => a = #[.ref x, .ref b] ∧ P.U.heap = h ∧ P.cells + 1 ≤ R.cells ∧ P.slots + A.slots.size ≤ R.slots)
      (fun P _ v B => ∃ L, Q Z x A h v B.U.heap L ∧ B.locs = P.locs ++ L ∧ B.cells = P.cells + 1 ∧ B.slots = P.slots + A.slots.size) := by
  intro m meth c P g ig mk a X hg hsize hdg hW hn hp'
  obtain ⟨rfl, rfl, r1, r2⟩ := hp'
  have al : Z.vm.Alike P.U.vm := hZ.alike.trans X.warmed.alike
  obtain ⟨D, cfV, kV, iV, fV, hD, gV, stV, knV, obV, asV, slV⟩ := id V
  obtain ⟨D', cfC, kC, iC, fC, hD', gC, stC, -, -, asC, slC⟩ := id C
  cases hD.symm.trans hD'
  obtain ⟨D2, kD, e1, e2, e3, e4, e5⟩ := id E
  cases hD.symm.trans e1
  obtain ⟨c2, k2, i1, i2, i3, -⟩ := Cond.instantiable_spec wi
  cases e2.symm.trans i1
  cases e3.symm.trans i2
  obtain ⟨kU, u1, u2⟩ := al.2.2 _ _ e3
  have hB : Blank ST x D P.U := ⟨hD, ⟨knV, fun q hq => by rw [hq] at obV; cases obV⟩, by rw [al.findClass]; exact e2, kU, u1, by rw [u2]; exact i3, by rw [u2]; exact e5 i3⟩
  have F1 : Found ST "value" "[B" fV P.U := ⟨SBG.found_only al ⟨cfV, kV, iV, gV⟩, stV⟩
  have F2 : Found ST "coder" "B" fC P.U := ⟨SBG.found_only al ⟨cfC, kC, iC, gC⟩, stC⟩
  have hA : Ch b A P.U := ⟨⟨K.1, State.isArrayOf_alike al K.2.1, K.2.2, by omega⟩, hty⟩
  have hS : StaticIs P.U ST "COMPACT_STRINGS" "Z" (.int z) := by
    obtain ⟨cfS, iS, kS, fS, st, cS, t1, t2, t3, t4, t5, t6, t7⟩ := S
    exact StaticIs.there (s := { Z with heap := P.U.heap }) ⟨cfS, iS, kS, fS, st, cS, t1, t2, t3, t4, t5, (fun q => by rw [q] at t6; cases t6), t7⟩ al rfl
  obtain ⟨v, B, X', ⟨⟨hv, E', V', q1, q2, q3, q4, q5, q6, q7, q8, q9, q10, q11⟩, hl, hc, hs⟩, st⟩ := New1.pays x D fV fC b A z (tab_of (moved hZ hw)) hfr hlo m meth c P g ig mk _ X hg hsize hdg hW hn ⟨r1, r2, rfl, hB, F1, F2, hA, hS, hz, l0, l2, hp⟩
  have al' : Z.vm.Alike B.U.vm := hZ.alike.trans X'.warmed.alike
  have hsz : E'.slots.size = D.slots.size := by
    obtain ⟨-, -, -, kB, w1, w2, w3⟩ := q1
    obtain ⟨kB', y1, y2⟩ := al'.2.2 _ _ e3
    rw [q2.2.1] at w1
    cases w1.symm.trans y1
    rw [w3, e5 i3, y2]
  refine ⟨v, B, X', ⟨_, ⟨hv, ?_, ⟨by omega, fun y cy hy hn' => q10 y cy (by simpa using hn') hy, fun y cy hy => ?_⟩, q11, ⟨E', _, q1.1, by rw [q2.2.1]; exact e2, by rw [q2.2.1]; exact e3, by rw [q2.1]; exact obV, fun _ => by rw [hsz]; exact e5 i3⟩,
    ⟨E', cfV, kV, iV, fV, q1.1, gV, stV, by rw [q2.1]; exact knV, by rw [q2.1]; exact obV, by rw [q2.2.1]; exact asV, q3⟩, ⟨E', cfC, kC, iC, fC, q1.1, gC, stC, by rw [q2.1]; exact knV, by rw [q2.1]; exact obV, by rw [q2.2.1]; exact asC, q4⟩,
    ⟨V', ⟨q5.1, State.isArrayOf_alike al'.symm q5.2.1, q5.2.2.1⟩, q6, by rw [← al'.findClass]; exact q7, q8, fun j hj => by have := q9 j hj; rwa [Nat.zero_add] at this⟩, fun O n d w F n1 n2 => ?_⟩, hl, hc, hs⟩, st⟩
  · intro y hy
    simp only [List.mem_cons, List.not_mem_nil, or_false] at hy
    rcases hy with rfl | rfl <;> rfl
  · by_cases q : y = x
    · subst q
      cases hD.symm.trans hy
      exact ⟨E', q1.1, q2.2.1, q2.1, hsz⟩
    · exact ⟨cy, q10 y cy q hy, rfl, rfl, rfl⟩
  · obtain ⟨D3, cf, k, i, f, g1, g2, g3, g4, g5, g6, g7⟩ := F
    cases hD.symm.trans g1
    simp only [RoadKit.slotOf, g2, gV, gC, Option.map_some, Option.getD_some] at n1 n2
    exact ⟨E', cf, k, i, f, q1.1, g2, g3, by rw [q2.1]; exact g4, by rw [q2.1]; exact g5, by rw [q2.2.1]; exact g6, by rw [q2.2.2 f.slot (by simp [n1, n2])]; exact g7⟩
end StrChars.Road
namespace StrChars.Road
open Jvm Sem ClassFile Op Lib Jvm.Stand Jvm.Free Jvm.Free.XT
/-- WHAT COMES BACK, the byte[] as a list of values -/
def QA (Z : State) (x : Addr) (zn : Int32) (cs : List Int32) (h : Heap) (v : Option Value) (h' : Heap) (L : List Loc) : Prop := v = none ∧ (∀ y ∈ L, y.base = x) ∧ RoadKit.Keep h h' [x] ∧ h'.size = h.size + 1 ∧ RoadKit.Exa Z h' x ST ∧ RoadKit.Fld Z h' x ST "value" "[B" (.ref h.size) ∧ RoadKit.Fld Z h' x ST "coder" "B" (.int 0) ∧
  (∃ kb, Z.vm.findClass "[B" = some kb ∧ RoadKit.Arv Z h' h.size kb .byte zn (cs.map fun c => .int (lo8 c)) (.int 0)) ∧
  ∀ (O n d : String) (w : Value), RoadKit.Fld Z h x O n d w → RoadKit.slotOf Z O n d ≠ RoadKit.slotOf Z ST "value" "[B" → RoadKit.slotOf Z O n d ≠ RoadKit.slotOf Z ST "coder" "B" → RoadKit.Fld Z h' x O n d w
/-- **new String(chars) AT A CALL, THE ARRAYS AS LISTS**: the char[] at b holds cs, not empty, no char above 255 -/
theorem backArv {p : Program} {l : Launch} {e : Env} {R : Room} {s : State} {args : Array Value} {below : List Frame} {len W : Nat} {Z : State} {a0 : Array Value} {h : Heap} (hZ : Z.Warmed39 s.vm) (hw : ∀ d ∈ words, d.before a0 Z = true) {kI : Nat} (wi : (Jvm.Cond.instantiable ST kI).before a0 Z = true)
    {x b : Addr} {k : ClassId} {zn z : Int32} {cs : List Int32} {dv v0 c0 : Value} (E : RoadKit.Exa Z h x ST) (V : RoadKit.Fld Z h x ST "value" "[B" v0) (C : RoadKit.Fld Z h x ST "coder" "B" c0) (K : RoadKit.Arv Z h b k .char zn (cs.map Value.int) dv) (S : RoadKit.Sta Z h ST "COMPACT_STRINGS" "Z" (.int z)) (hz : ¬ z = 0)
    (hlen : zn.toNatClampNeg = cs.length) (h0 : 0 < cs.length) (hbig : cs.length ≤ 536870912) (hall : ∀ c ∈ cs, ¬ 255 < c) (hfr : 4 ≤ R.frames) (hlo : W + 65 ≤ R.locals) :
    Back l R p e below s args New1.yN len W (fun P a => a = #[.ref x, .ref b] ∧ P.U.heap = h ∧ P.cells + 1 ≤ R.cells ∧ P.slots + cs.length ≤ R.slots)
      (fun P _ v B => ∃ L, QA Z x zn cs h v B.U.heap L ∧ B.locs = P.locs ++ L ∧ B.cells = P.cells + 1 ∧ B.slots = P.slots + cs.length) := by
  obtain ⟨A, K1, K2, K3, K4, K5, K6⟩ := K
  have e : A.slots.size = cs.length := K3.trans hlen
  have hat : ∀ (i : Nat) (hi : i < cs.length), A.slots[i]? = some (.int cs[i]) := fun i hi => by rw [K5 i (by omega)]; simp [List.getD_eq_getElem?_getD, hi]
  have hcv : ∀ (i : Nat) (hi : i < cs.length), cv A i = cs[i] := fun i hi => by unfold cv; rw [hat i hi]
  have hty : Typed .char A := fun i v hv => by
    have hi : i < A.slots.size := (Array.getElem?_eq_some_iff.mp hv).1
    have q := K5 i hi
    rw [hv] at q
    rw [Option.some.inj q]
    exact K6 i hi
  refine Back.mono (back hZ hw wi E V C K1 hty S hz (by omega) (by omega) (fun i hi => by rw [hcv i (by omega)]; exact hall _ (List.getElem_mem _)) hfr hlo) (fun P a hp => ⟨hp.1, hp.2.1, hp.2.2.1, by rw [e]; exact hp.2.2.2⟩) (fun P a v B hp hq => ?_)
  obtain ⟨L, ⟨q1, q2, q3, q4, q5, q6, q7, ⟨V', v1, v2, v3, v4, v5⟩, q9⟩, hl, hc, hs⟩ := hq
  refine ⟨L, ⟨q1, q2, q3, q4, q5, q6, q7, ⟨V'.cls, v3, V', v1, rfl, by rw [v4, e, hlen], K4, fun i hi => ?_, fun i hi => ?_⟩, q9⟩, hl, hc, by rw [hs, e]⟩
  · have hi' : i < cs.length := by omega
    rw [v5 i (by omega), hcv i hi']; simp [List.getD_eq_getElem?_getD, hi']
  · have hi' : i < cs.length := by omega
    simp only [List.getD_eq_getElem?_getD, List.getElem?_map, List.getElem?_eq_getElem hi', Option.map_some, Option.getD_some]
    exact fits_lo8 _
end StrChars.Road
namespace StrChars.Road
open Jvm Sem ClassFile Op Lib Jvm.Stand Jvm.Free Jvm.Free.XT
/-- WHAT COMES BACK, in the writer's own shape -/
def QV (Z : State) (x : Addr) (N : Int32) (bs : List Int32) (h : Heap) (n0 : Nat) (v : Option Value) (h' : Heap) (L : List Loc) : Prop := v = none ∧ RoadKit.Fr n0 L ∧ RoadKit.Keep h h' [x] ∧ RoadKit.Exa Z h' x ST ∧ RoadKit.Fld Z h' x ST "coder" "B" (.int 0) ∧
  ∃ (t : Addr) (kb : ClassId), n0 ≤ t ∧ h.size ≤ t ∧ ¬ t = x ∧ RoadKit.Fld Z h' x ST "value" "[B" (.ref t) ∧ RoadKit.Arv Z h' t kb .byte N (bs.map Value.int) (.int 0)
/-- **new String(chars) AT A CALL, FOR THE WRITER**: a char[] of n known ints, each 0 to 255 -/
theorem backV {p : Program} {l : Launch} {e : Env} {R : Room} {s : State} {args : Array Value} {below : List Frame} {len W : Nat} {Z : State} {a0 : Array Value} {h : Heap} (hZ : Z.Warmed39 s.vm) (hw : ∀ d ∈ words, d.before a0 Z = true) {kI : Nat} (wi : (Jvm.Cond.instantiable ST kI).before a0 Z = true)
    {x b : Addr} {kC : ClassId} {cs bs : List Int32} {d v0 c0 : Value} {z N : Int32} {n n0 : Nat} (hx0 : n0 ≤ x) (hh0 : n0 ≤ h.size) (E : RoadKit.Exa Z h x ST) (V : RoadKit.Fld Z h x ST "value" "[B" v0) (C : RoadKit.Fld Z h x ST "coder" "B" c0) (K : RoadKit.Arv Z h b kC .char N (cs.map Value.int) d) (S : RoadKit.Sta Z h ST "COMPACT_STRINGS" "Z" (.int z)) (hz : ¬ z = 0)
    (hn : cs.length = n) (hN : N = Int32.ofNat n) (l0 : 0 < n) (l2 : n ≤ 4000) (hp : ∀ c ∈ cs, ¬ c < 0 ∧ ¬ (255 : Int32) < c) (hb : bs = cs.map (fun c => c.toInt8.toInt32)) (hfr : 4 ≤ R.frames) (hlo : W + 65 ≤ R.locals) :
    Back l R p e below s args (⟨"java/lang/String", "<init>", "([C)V"⟩ : MethodName) len W (fun P a => a = #[.ref x, .ref b] ∧ P.U.heap = h ∧ P.cells + 1 ≤ R.cells ∧ P.slots + n ≤ R.slots)
      (fun P _ v B => ∃ L, QV Z x N bs h n0 v B.U.heap L ∧ B.locs = P.locs ++ L ∧ B.cells = P.cells + 1 ∧ B.slots = P.slots + n) := by
  subst hn hN hb
  refine Back.mono (backArv hZ hw wi E V C K S hz (n32 (by omega)) l0 (by omega) (fun c hc => (hp c hc).2) hfr hlo) (fun P a hp => hp) (fun P a v B hp hq => ?_)
  obtain ⟨L, ⟨q1, q2, q3, q4, q5, q6, q7, ⟨kb, v1, v2⟩, q9⟩, hl, hc, hs⟩ := hq
  exact ⟨L, ⟨q1, fun y hy => by rw [q2 y hy]; exact hx0, q3, q5, q7, h.size, kb, hh0, Nat.le_refl _, Nat.ne_of_gt E.lt, q6, by rw [List.map_map]; exact v2⟩, hl, hc, hs⟩
end StrChars.Road
namespace StrChars
open Jvm Sem ClassFile Op Lib Jvm.Stand Jvm.Free.XT Jvm.Free.ALB Jvm.Free.JM Jvm.Free
open Jvm.Lib.Cold (StaticIs)
def hi8 (x : Int32) : Int32 := lo8 (x >>> ((8 : Int32) &&& 31))
theorem shr0 (c : Int32) : c >>> ((0 : Int32) &&& 31) = c := by
  have e : ((0 : Int32) &&& 31) = 0 := by decide
  rw [e]
  apply Int32.toBitVec_inj.mp
  rw [Int32.toBitVec_shiftRight]
  have e1 : ((0 : Int32).toBitVec.smod 32) = 0#32 := by decide
  rw [e1, BitVec.sshiftRight_eq']
  exact BitVec.sshiftRight_zero
end StrChars
namespace StrChars
open Jvm Sem ClassFile Op Lib Jvm.Stand Jvm.Free.XT Jvm.Free.ALB Jvm.Free.JM Jvm.Free
open Jvm.Lib.Cold (StaticIs)
theorem shr1 {n : Nat} (h : 2 * n < 2 ^ 31) : Int32.ofNat (2 * n) >>> ((1 : Int32) &&& 31) = Int32.ofNat n := by
  have e : ((1 : Int32) &&& 31) = 1 := by decide
  rw [e]
  apply Int32.toBitVec_inj.mp
  rw [Int32.toBitVec_shiftRight]
  have e1 : ((1 : Int32).toBitVec.smod 32) = 1#32 := by decide
  have hm : (BitVec.ofNat 32 (2 * n)).toNat = 2 * n := by rw [BitVec.toNat_ofNat, Nat.mod_eq_of_lt (by omega)]
  rw [e1, BitVec.sshiftRight_eq']
  apply BitVec.eq_of_toNat_eq
  show ((BitVec.ofNat 32 (2 * n)).sshiftRight 1).toNat = (BitVec.ofNat 32 n).toNat
  rw [BitVec.toNat_sshiftRight_of_msb_false (by rw [BitVec.msb_eq_false_iff_two_mul_lt, hm]; omega), hm, BitVec.toNat_ofNat, Nat.shiftRight_eq_div_pow]
  omega
/-- the array's cell V codes the n chars f 0 .. f (n - 1) by the coder cd, as the JDK does: coder 1 just where some char is above 255 -/
def Cod (cd : Int32) (n : Nat) (f : Nat → Int32) (V : Cell) : Prop := (cd = 0 ∧ V.slots.size = n ∧ ∀ j, j < n → V.slots[j]? = some (.int (lo8 (f j))) ∧ ¬ 255 < f j) ∨ (cd = 1 ∧ V.slots.size = 2 * n ∧ (∀ j, j < n → V.slots[2 * j]? = some (.int (lo8 (f j))) ∧ V.slots[2 * j + 1]? = some (.int (hi8 (f j)))) ∧ ∃ j, j < n ∧ 255 < f j)
theorem Cod.cd {cd : Int32} {n : Nat} {f : Nat → Int32} {V : Cell} (h : Cod cd n f V) : cd = 0 ∨ cd = 1 := h.imp (fun q => q.1) fun q => q.1
theorem Cod.len {cd : Int32} {n : Nat} {f : Nat → Int32} {V : Cell} (h : Cod cd n f V) (hs : V.slots.size < 2 ^ 31) : Int32.ofNat V.slots.size >>> (cd &&& 31) = Int32.ofNat n := by
  rcases h with ⟨rfl, h, -⟩ | ⟨rfl, h, -⟩
  · rw [shr0, h]
  · rw [h, shr1 (by omega)]
/-- **x is a String of the n chars f 0 .. f (n - 1)**, Latin-1 or UTF-16; its array at t has the cell V -/
def Txt (x t : Addr) (V : Cell) (cd : Int32) (n : Nat) (f : Nat → Int32) (U : State) : Prop := Exact "java/lang/String" x U ∧ Has x "java/lang/String" "value" "[B" (.ref t) U ∧ Has x "java/lang/String" "coder" "B" (.int cd) U ∧ XT.Arr .byte t V U ∧ Cod cd n f V ∧ ∀ j, j < n → ¬ f j < 0 ∧ ¬ 65535 < f j
theorem Txt.mv {x t : Addr} {V : Cell} {cd : Int32} {n : Nat} {f : Nat → Int32} {U U' : State} (h : Txt x t V cd n f U) (hal : U.vm.Alike U'.vm) (hh : U'.heap = U.heap) : Txt x t V cd n f U' := ⟨h.1.mv hal hh, h.2.1.mv hal hh, h.2.2.1.mv hal hh, h.2.2.2.1.mv hal hh, h.2.2.2.2⟩
namespace Cdr
def yN : MethodName := ⟨"java/lang/String", "coder", "()B"⟩
abbrev yB : ByteArray := jdk_42_method_152_code
theorem d0 : decode yB 0 = .ok (.getstatic 38, 3) := by decide +kernel
theorem d3 : decode yB 3 = .ok (.ifCond (.eq) 10, 3) := by decide +kernel
theorem d6 : decode yB 6 = .ok (.aload_n 0, 1) := by decide +kernel
theorem d7 : decode yB 7 = .ok (.getfield 15, 3) := by decide +kernel
theorem d10 : decode yB 10 = .ok (.goto 4, 3) := by decide +kernel
theorem d14 : decode yB 14 = .ok (.ireturn, 1) := by decide +kernel
def site : List Cond := [.fieldLink "java/lang/String" 38 "java/lang/String" "COMPACT_STRINGS" "Z", .fieldLink "java/lang/String" 15 "java/lang/String" "coder" "B"]
def tab : Cond := tabOf yN yB 1 (some .byte) site
def P (x : Addr) (cd z : Int32) (args : Array Value) (s : State) : Prop := args = #[.ref x] ∧ Has x "java/lang/String" "coder" "B" (.int cd) s ∧ (cd = 0 ∨ cd = 1) ∧ StaticIs s "java/lang/String" "COMPACT_STRINGS" "Z" (.int z) ∧ ¬ z = 0
def E (cd : Int32) (r : Option Value) (s u : State) : Prop := XT.PureE (some (.int cd)) r s u
theorem law (l : Launch) (x : Addr) (cd z : Int32) : Law l yN 1 0 0 0 yB 1 (some .byte) site (P x cd z) (E cd) [] 0 0 := by
  refine Law.of_walk (plainFor_of_name (by decide +kernel)) (by decide +kernel) (by decide +kernel) (by decide) (fun _ _ h => by rw [h.1]; rfl) (fun _ U U' hal hh h => ⟨h.1, h.2.1.mv hal hh, h.2.2.1, h.2.2.2.1.there hal hh, h.2.2.2.2⟩) (fun r U U' V V' h1 hal h2 h => XT.PureE.mv r U U' V V' h1 hal h2 h) ?_
  intro p e s m args below meth c s₁ X0 hexec hbytes hml hret hlk hnm hown hh0 W hP
  obtain ⟨rfl, hx, hc, s1, hz⟩ := hP
  have c1 : Steps p.tables e below (s₁.setTop (entryFrame m #[.ref x] 1)) (s₁.setTop (mkF m 0 #[.val (.ref x)] [])) := entry rfl
  obtain ⟨T2, X2, q2, st2⟩ := X0.sget hexec hown (wk W (.fieldLink "java/lang/String" 38 "java/lang/String" "COMPACT_STRINGS" "Z")) s1 (fun _ _ h => by rw [hh0]; exact h) (g := (mkF m 0 #[.val (.ref x)] [])) rfl (hb hbytes d0)
  have hh2 := q2.trans hh0
  have c3 : Steps p.tables e below (s₁.setTop (entryFrame m #[.ref x] 1)) (T2.setTop (mkF m 7 #[.val (.ref x)] [.ref x])) := (c1.trans (st2 _ (Steps.refl _))).trans (by
    refine XS.ifNo X2.here hexec rfl (hb hbytes d3) rfl (i0_eq_f hz) ?_
    refine XS.aloadN X2.here hexec rfl (hb hbytes d6) rfl rfl ?_
    exact Steps.refl _)
  obtain ⟨T4, X4, q4, st4⟩ := X2.hget hexec hown (wk W (.fieldLink "java/lang/String" 15 "java/lang/String" "coder" "B")) (hx.mv X2.warmed.alike hh2) (g := (mkF m 7 #[.val (.ref x)] [.ref x])) rfl (rest := []) rfl (hb hbytes d7)
  have c5 : Steps p.tables e below (s₁.setTop (entryFrame m #[.ref x] 1)) (T4.setTop (mkF m 14 #[.val (.ref x)] [.int cd])) := (c3.trans (st4 _ (Steps.refl _))).trans (by
    refine XS.goto X4.here hexec rfl (pc0 := 10) rfl (hb hbytes d10) (by decide) rfl ?_
    exact Steps.refl _)
  exact ⟨T4, some (.int cd), _, _, _, X4, rfl, rfl, rfl, (fun h => by cases h), ⟨rfl, q4.trans hh2⟩, fun fs hl => c5.trans (X4.ireturnOut hexec hret (by rcases hc with rfl | rfl <;> rfl) (Or.inr (Or.inr (Or.inl rfl))) (hb hbytes d14) hl)⟩
end Cdr
namespace Len
def yN : MethodName := ⟨"java/lang/String", "length", "()I"⟩
abbrev yB : ByteArray := jdk_42_method_54_code
theorem d0 : decode yB 0 = .ok (.aload_n 0, 1) := by decide +kernel
theorem d1 : decode yB 1 = .ok (.getfield 9, 3) := by decide +kernel
theorem d4 : decode yB 4 = .ok (.arraylength, 1) := by decide +kernel
theorem d5 : decode yB 5 = .ok (.aload_n 0, 1) := by decide +kernel
theorem d6 : decode yB 6 = .ok (.invokevirtual 335, 3) := by decide +kernel
theorem d9 : decode yB 9 = .ok (.ishr, 1) := by decide +kernel
theorem d10 : decode yB 10 = .ok (.ireturn, 1) := by decide +kernel
def site : List Cond := [.fieldLink "java/lang/String" 9 "java/lang/String" "value" "[B", Cdr.tab] ++ virtW "java/lang/String" 335 "java/lang/String" Cdr.yN Cdr.yN
def tab : Cond := tabOf yN yB 1 (some .int) site
def P (x t : Addr) (V : Cell) (cd : Int32) (n : Nat) (f : Nat → Int32) (z : Int32) (args : Array Value) (s : State) : Prop := args = #[.ref x] ∧ Txt x t V cd n f s ∧ StaticIs s "java/lang/String" "COMPACT_STRINGS" "Z" (.int z) ∧ ¬ z = 0
def E (n : Nat) (r : Option Value) (s u : State) : Prop := XT.PureE (some (.int (Int32.ofNat n))) r s u
/-- length() of a String of n chars, in either coding -/
theorem law (l : Launch) (x t : Addr) (V : Cell) (cd : Int32) (n : Nat) (f : Nat → Int32) (z : Int32) : Law l yN 1 0 1 13 yB 1 (some .int) site (P x t V cd n f z) (E n) [] 0 0 := by
  refine Law.of_walk (plainFor_of_name (by decide +kernel)) (by decide +kernel) (by decide +kernel) (by decide) (fun _ _ h => by rw [h.1]; rfl) (fun _ U U' hal hh h => ⟨h.1, h.2.1.mv hal hh, h.2.2.1.there hal hh, h.2.2.2⟩) (fun r U U' V V' h1 hal h2 h => XT.PureE.mv r U U' V V' h1 hal h2 h) ?_
  intro p e s m args below meth c s₁ X0 hexec hbytes hml hret hlk hnm hown hh0 W hP
  obtain ⟨rfl, hx, s1, hz⟩ := hP
  have v31 := hx.2.2.2.1.2.2.2
  have c1 : Steps p.tables e below (s₁.setTop (entryFrame m #[.ref x] 1)) (s₁.setTop (mkF m 1 #[.val (.ref x)] [.ref x])) := Steps.trans (entry rfl) (by
    show Steps p.tables e below (s₁.setTop (mkF m 0 #[.val (.ref x)] [])) _
    refine XS.aloadN X0.here hexec rfl (hb hbytes d0) rfl rfl ?_
    exact Steps.refl _)
  obtain ⟨T2, X2, q2, st2⟩ := X0.hget hexec hown (wk W (.fieldLink "java/lang/String" 9 "java/lang/String" "value" "[B")) (hx.mv X0.warmed.alike hh0).2.1 (g := (mkF m 1 #[.val (.ref x)] [.ref x])) rfl (rest := []) rfl (hb hbytes d1)
  have hh2 := q2.trans hh0
  have hx2 := hx.mv X2.warmed.alike hh2
  have c3 : Steps p.tables e below (s₁.setTop (entryFrame m #[.ref x] 1)) (T2.setTop (mkF m 6 #[.val (.ref x)] [.ref x, .int (Int32.ofNat V.slots.size)])) := (c1.trans (st2 _ (Steps.refl _))).trans (by
    refine X2.alen hexec hx2.2.2.2.1 rfl rfl (hb hbytes d4) ?_
    refine XS.aloadN X2.here hexec rfl (hb hbytes d5) rfl rfl ?_
    exact Steps.refl _)
  obtain ⟨v4, T4, X4, E4, g4⟩ := X2.callV hexec (Cdr.law l x cd z) hown (wks W (virtW "java/lang/String" 335 "java/lang/String" Cdr.yN Cdr.yN)) rfl (by decide) (wk W Cdr.tab) (W := 1) (Nat.le_of_ble_eq_true rfl) (Nat.le_of_ble_eq_true rfl) (Nat.le_refl _) (Nat.le_refl _) (hx2.1.fc X2.warmed.alike) hx2.1.is (g := (mkF m 6 #[.val (.ref x)] [.ref x, .int (Int32.ofNat V.slots.size)])) rfl (by rw [hml]; rfl) c3 (argsL := []) (rest := [.int (Int32.ofNat V.slots.size)]) rfl rfl (by show 2 * 0 + (1 + 0) ≤ _; decide) (hb hbytes d6) (⟨rfl, hx2.2.2.1, hx.2.2.2.2.1.cd, s1.there X2.warmed.alike hh2, hz⟩)
  obtain ⟨rfl, q4⟩ := E4
  have c5 : Steps p.tables e below (s₁.setTop (entryFrame m #[.ref x] 1)) (T4.setTop (mkF m 10 #[.val (.ref x)] [.int (Int32.ofNat V.slots.size >>> (cd &&& 31))])) := Steps.trans g4 (by
    refine ishr X4.here hexec rfl (hb hbytes d9) rfl ?_
    exact Steps.refl _)
  rw [hx.2.2.2.2.1.len v31] at c5
  exact ⟨T4, some (.int (Int32.ofNat n)), _, _, _, X4, rfl, rfl, rfl, (fun h => by cases h), ⟨rfl, q4.trans hh2⟩, fun fs hl => c5.trans (X4.ireturnOut hexec hret rfl (Or.inl rfl) (hb hbytes d10) hl)⟩
theorem pays {l : Launch} {R : Room} {p : Program} {e : Env} {below : List Frame} {s : State} {sargs : Array Value} {len W : Nat} (x t : Addr) (V : Cell) (cd : Int32) (n : Nat) (f : Nat → Int32) (z : Int32) (htab : tab.before sargs s = true) (hfr : 2 ≤ R.frames) (hlo : W + 25 ≤ R.locals) :
    Back l R p e below s sargs yN len W (fun A₁ a₁ => A₁.cells + 0 ≤ R.cells ∧ A₁.slots + 0 ≤ R.slots ∧ P x t V cd n f z a₁ A₁.U) (fun A₁ _ v₁ B₁ => E n v₁ A₁.U B₁.U ∧ B₁.locs = A₁.locs ++ [] ∧ B₁.cells = A₁.cells + 0 ∧ B₁.slots = A₁.slots + 0) :=
  (law l x t V cd n f z).pays htab hfr (by omega)
end Len
end StrChars
namespace StrChars.Road
open Jvm Sem ClassFile Op Lib Jvm.Stand Jvm.Free Jvm.Free.XT
open Jvm.Lib.Cold (StaticIs)
theorem consq {a : Array Value} {s : State} {c : Jvm.Cond} {L : List Jvm.Cond} (h0 : c.before a s = true) (h : ∀ w ∈ L, w.before a s = true) : ∀ w ∈ c :: L, w.before a s = true := fun w hw => (List.mem_cons.mp hw).elim (fun e => e ▸ h0) (h w)
/-- the words of String.length(), either coding -/
abbrev wordsLen : List Jvm.Cond := [.code Len.yN Len.yB 1 (some .int), .initialized ST, .fieldLink ST 9 ST "value" "[B", .fieldLink ST 38 ST "COMPACT_STRINGS" "Z", .fieldLink ST 15 ST "coder" "B", .code Cdr.yN Cdr.yB 1 (some .byte), .methodLink ST 335 Cdr.yN, .declares Cdr.yN, .selects ST Cdr.yN Cdr.yN, .instanceMethod Cdr.yN]
theorem tabLen_of {a : Array Value} {s : State} (h : ∀ w ∈ wordsLen, w.before a s = true) : Len.tab.before a s = true := by
  have hc : Cdr.tab.before a s = true := unparts (wk h (.code Cdr.yN Cdr.yB 1 (some .byte))) (wks h (.initialized Cdr.yN.cls :: Cdr.site))
  have q := consq hc h
  exact unparts (wk q (.code Len.yN Len.yB 1 (some .int))) (wks q (.initialized Len.yN.cls :: Len.site))
theorem movedLen {Z s : State} {a0 args : Array Value} (hZ : Z.Warmed39 s.vm) (hw : ∀ d ∈ wordsLen, d.before a0 Z = true) : ∀ d ∈ wordsLen, d.before args s = true := fun d hd => by
  have q := hw d hd
  have t : ∀ d ∈ wordsLen, d = .arrayClass .byte ∨ (d.onTables && d.keepsFace) = true := by decide +kernel
  rcases t d hd with rfl | t
  · exact RoadKit.mvA hZ q
  · exact RoadKit.mv hZ q t
/-- the bytes of the chars cs, low before high -/
def wideBytes : List Int32 → List Value
  | [] => []
  | c :: cs => .int (lo8 c) :: .int (hi8 c) :: wideBytes cs
theorem wide_lo (d : Value) : ∀ (cs : List Int32) (j : Nat), j < cs.length → (wideBytes cs).getD (2 * j) d = .int (lo8 (cs.getD j 0))
  | [], j, h => absurd h (Nat.not_lt_zero j)
  | c :: cs, 0, _ => rfl
  | c :: cs, j + 1, h => by
    have q := wide_lo d cs j (by simpa using h)
    rw [show 2 * (j + 1) = 2 * j + 1 + 1 from by omega]
    simpa [wideBytes] using q
theorem wide_hi (d : Value) : ∀ (cs : List Int32) (j : Nat), j < cs.length → (wideBytes cs).getD (2 * j + 1) d = .int (hi8 (cs.getD j 0))
  | [], j, h => absurd h (Nat.not_lt_zero j)
  | c :: cs, 0, _ => rfl
  | c :: cs, j + 1, h => by
    have q := wide_hi d cs j (by simpa using h)
    rw [show 2 * (j + 1) + 1 = 2 * j + 1 + 1 + 1 from by omega]
    simpa [wideBytes] using q
theorem low_at (d : Value) (cs : List Int32) (j : Nat) (h : j < cs.length) : (cs.map fun c => Value.int (lo8 c)).getD j d = .int (lo8 (cs.getD j 0)) := by
  simp [List.getD_eq_getElem?_getD, h]
/-- an array of N2 bytes vs codes the chars cs by the coder cd -/
def CodA (cs : List Int32) (cd N2 : Int32) (vs : List Value) : Prop := (cd = 0 ∧ N2 = Int32.ofNat cs.length ∧ vs = (cs.map fun c => Value.int (lo8 c)) ∧ ∀ c ∈ cs, ¬ 255 < c) ∨ (cd = 1 ∧ N2 = Int32.ofNat (2 * cs.length) ∧ vs = wideBytes cs ∧ ∃ c ∈ cs, 255 < c)
theorem CodA.cod {cs : List Int32} {cd N2 : Int32} {vs : List Value} {V : Cell} (h : CodA cs cd N2 vs) (hn : 2 * cs.length < 2 ^ 31) (hs : V.slots.size = N2.toNatClampNeg) (hv : RoadKit.Has V vs (.int 0)) : Cod cd cs.length (fun j => cs.getD j 0) V := by
  rcases h with ⟨rfl, rfl, rfl, h⟩ | ⟨rfl, rfl, rfl, c, hc, hw⟩
  · rw [n32 (by omega)] at hs
    exact Or.inl ⟨rfl, hs, fun j hj => ⟨by rw [hv j (by omega), low_at _ _ _ hj], by
      have e : cs.getD j 0 = cs[j] := by simp [List.getD_eq_getElem?_getD, hj]
      show ¬ 255 < cs.getD j 0
      rw [e]; exact h _ (List.getElem_mem _)⟩⟩
  · rw [n32 (by omega)] at hs
    obtain ⟨j, hj, rfl⟩ := List.getElem_of_mem hc
    exact Or.inr ⟨rfl, hs, fun j hj => ⟨by rw [hv _ (by omega), wide_lo _ _ _ hj], by rw [hv _ (by omega), wide_hi _ _ _ hj]⟩, j, hj, by
      have e : cs.getD j 0 = cs[j] := by simp [List.getD_eq_getElem?_getD, hj]
      show 255 < cs.getD j 0
      rw [e]; exact hw⟩
/-- an object of exactly java/lang/String, its two fields found: as the laws ask it -/
theorem strObj {Z U : State} {a0 : Array Value} {kI : Nat} (wi : (Jvm.Cond.instantiable ST kI).before a0 Z = true) (al : Z.vm.Alike U.vm) {x : Addr} {v0 c0 : Value} (E : RoadKit.Exa Z U.heap x ST) (V : RoadKit.Fld Z U.heap x ST "value" "[B" v0) (C : RoadKit.Fld Z U.heap x ST "coder" "B" c0) :
    ∃ (D : Cell) (fV fC : Field), Blank ST x D U ∧ Found ST "value" "[B" fV U ∧ Found ST "coder" "B" fC U ∧ D.slots[fV.slot]? = some v0 ∧ D.slots[fC.slot]? = some c0 ∧ RoadKit.slotOf Z ST "value" "[B" = fV.slot ∧ RoadKit.slotOf Z ST "coder" "B" = fC.slot := by
  obtain ⟨D, cfV, kV, iV, fV, hD, gV, stV, knV, obV, asV, slV⟩ := V
  obtain ⟨D', cfC, kC, iC, fC, hD', gC, stC, -, -, asC, slC⟩ := C
  cases hD.symm.trans hD'
  obtain ⟨D2, kD, e1, e2, e3, e4, e5⟩ := E
  cases hD.symm.trans e1
  obtain ⟨c2, k2, i1, i2, i3, -⟩ := Cond.instantiable_spec wi
  cases e2.symm.trans i1
  cases e3.symm.trans i2
  obtain ⟨kU, u1, u2⟩ := al.2.2 _ _ e3
  exact ⟨D, fV, fC, ⟨hD, ⟨knV, fun q hq => by rw [hq] at obV; cases obV⟩, by rw [al.findClass]; exact e2, kU, u1, by rw [u2]; exact i3, by rw [u2]; exact e5 i3⟩, ⟨SBG.found_only al ⟨cfV, kV, iV, gV⟩, stV⟩, ⟨SBG.found_only al ⟨cfC, kC, iC, gC⟩, stC⟩, slV, slC, by simp [RoadKit.slotOf, gV], by simp [RoadKit.slotOf, gC]⟩
theorem sta_is {Z U : State} (al : Z.vm.Alike U.vm) {C n d : String} {v : Value} (S : RoadKit.Sta Z U.heap C n d v) : StaticIs U C n d v := by
  obtain ⟨cfS, iS, kS, fS, st, cS, t1, t2, t3, t4, t5, t6, t7⟩ := S
  exact StaticIs.there (s := { Z with heap := U.heap }) ⟨cfS, iS, kS, fS, st, cS, t1, t2, t3, t4, t5, (fun q => by rw [q] at t6; cases t6), t7⟩ al rfl
/-- **length() OF SUCH A STRING** -/
theorem lenW {p : Program} {l : Launch} {e : Env} {R : Room} {s : State} {args : Array Value} {below : List Frame} {len W : Nat} {Z : State} {a0 : Array Value} {h : Heap} (hZ : Z.Warmed39 s.vm) (hw : ∀ d ∈ wordsLen, d.before a0 Z = true) {kI : Nat} (wi : (Jvm.Cond.instantiable ST kI).before a0 Z = true)
    {x t : Addr} {kb : ClassId} {cs : List Int32} {cd N2 z : Int32} {vs : List Value} (E : RoadKit.Exa Z h x ST) (V : RoadKit.Fld Z h x ST "value" "[B" (.ref t)) (C : RoadKit.Fld Z h x ST "coder" "B" (.int cd)) (K : RoadKit.Arv Z h t kb .byte N2 vs (.int 0)) (hc : CodA cs cd N2 vs) (hb : ∀ c ∈ cs, ¬ c < 0 ∧ ¬ (65535 : Int32) < c)
    (S : RoadKit.Sta Z h ST "COMPACT_STRINGS" "Z" (.int z)) (hz : ¬ z = 0) (l2 : cs.length ≤ 4000) (hfr : 2 ≤ R.frames) (hlo : W + 25 ≤ R.locals) :
    Back l R p e below s args (⟨"java/lang/String", "length", "()I"⟩ : MethodName) len W (fun P a => a = #[.ref x] ∧ P.U.heap = h ∧ P.cells + 0 ≤ R.cells ∧ P.slots + 0 ≤ R.slots)
      (fun P _ v B => ∃ L, (v = some (.int (Int32.ofNat cs.length)) ∧ L = [] ∧ B.U.heap = h) ∧ B.locs = P.locs ++ L ∧ B.cells = P.cells + 0 ∧ B.slots = P.slots + 0) := by
  obtain ⟨A, K1, K2, K3, K4, K5, K6⟩ := K
  have hcod := hc.cod (by omega) K3 K5
  intro m meth c P g ig mk a X hg hsize hdg hW hn hp'
  obtain ⟨rfl, rfl, r1, r2⟩ := hp'
  have al : Z.vm.Alike P.U.vm := hZ.alike.trans X.warmed.alike
  obtain ⟨D, fV, fC, hB, F1, F2, g1, g2, -, -⟩ := strObj wi al E V C
  have hx : Txt x t A cd cs.length (fun j => cs.getD j 0) P.U := ⟨⟨_, hB.2.2.1, D, hB.1, rfl, by cases q : D.vm <;> first | rfl | exact absurd q (hB.2.1.2 _)⟩, Has.of hB F1 g1, Has.of hB F2 g2, ⟨K1.1, State.isArrayOf_alike al K1.2.1, K1.2.2, by rcases hcod with ⟨-, q, -⟩ | ⟨-, q, -⟩ <;> omega⟩, hcod, fun j hj => by
    have e : cs.getD j 0 = cs[j] := by simp [List.getD_eq_getElem?_getD, hj]
    show ¬ cs.getD j 0 < 0 ∧ ¬ 65535 < cs.getD j 0
    rw [e]; exact hb _ (List.getElem_mem _)⟩
  obtain ⟨v, B, X', ⟨⟨hv, hh⟩, hl, hk, hs⟩, st⟩ := Len.pays x t A cd cs.length (fun j => cs.getD j 0) z (tabLen_of (movedLen hZ hw)) hfr hlo m meth c P g ig mk _ X hg hsize hdg hW hn ⟨r1, r2, rfl, hx, sta_is al S, hz⟩
  exact ⟨v, B, X', ⟨[], ⟨hv, rfl, hh⟩, hl, hk, hs⟩, st⟩
end StrChars.Road
namespace StrChars.Road
open Jvm Sem ClassFile Op Lib Jvm.Stand Jvm.Free Jvm.Free.XT
open Jvm.Lib.Cold (StaticIs)
/-- what backV says of its String, as the contracts of this text ask it: cs's low bytes, coder 0 -/
theorem codOf {cs : List Int32} {n : Nat} (hn : cs.length = n) (hb : ∀ c ∈ cs, ¬ 255 < c) : CodA cs 0 (Int32.ofNat n) ((cs.map lo8).map Value.int) := Or.inl ⟨rfl, by rw [hn], by simp [List.map_map, Function.comp_def], hb⟩
end StrChars.Road
end Jvm.Pilot.@@N@@

namespace Jvm.Pilot.@@N@@
open Jvm Jvm.ClassFile Sem Op Lib Jvm.Free Jvm.Stand Jvm.LawKit Jvm.RoadKit Bundle Jvm.Pilot.@@N@@.Jvm.D

def own_dg (V k : Nat) : Nat := (V / 10 ^ (17 - k)) % 10
def own_ch (V p i : Nat) : Nat := if i < p then 48 + own_dg V i else if i = p then 44 else 48 + own_dg V (i - 1)
theorem own_dg_lt (V k : Nat) : own_dg V k < 10 := Nat.mod_lt _ (by decide)
theorem own_ch_rng (V p i : Nat) : 44 ≤ own_ch V p i ∧ own_ch V p i < 58 := by
  have h1 := own_dg_lt V i
  have h2 := own_dg_lt V (i - 1)
  unfold own_ch
  split
  · omega
  · split <;> omega
theorem own_ch_sep (V p i : Nat) : own_ch V p i = 44 ↔ i = p := by
  unfold own_ch
  constructor
  · intro h
    by_cases q : i < p
    · rw [if_pos q] at h; omega
    · rw [if_neg q] at h
      by_cases r : i = p
      · exact r
      · rw [if_neg r] at h; omega
  · rintro rfl
    simp
theorem own_i64 {n : Nat} (h : n < 9223372036854775808) : (Int64.ofNat n).toInt = (n : Int) := by
  rw [Int64.toInt_ofNat_of_lt (by simpa using h)]
theorem own_i64_eq {x : Int64} {n : Nat} (h : n < 9223372036854775808) (e : x.toInt = (n : Int)) : x = Int64.ofNat n := by
  apply Int64.toInt_inj.mp; rw [own_i64 h]; exact e
theorem own_i32 {n : Nat} (h : n < 2147483648) : (Int32.ofNat n).toInt = (n : Int) := by
  rw [Int32.toInt_ofNat_of_lt (by simpa using h)]
theorem own_i32_eq {x : Int32} {n : Nat} (h : n < 2147483648) (e : x.toInt = (n : Int)) : x = Int32.ofNat n := by
  apply Int32.toInt_inj.mp; rw [own_i32 h]; exact e
theorem own_div64 {a b : Nat} (ha : a < 9223372036854775808) (hb : b < 9223372036854775808) : Int64.ofNat a / Int64.ofNat b = Int64.ofNat (a / b) := by
  apply own_i64_eq (Nat.lt_of_le_of_lt (Nat.div_le_self _ _) ha)
  rw [Int64.toInt_div, own_i64 ha, own_i64 hb]
  rw [Int.tdiv_eq_ediv_of_nonneg (by omega)]
  have e : ((a / b : Nat) : Int) = (a : Int) / (b : Int) := Int.natCast_ediv a b
  rw [← e]
  have : a / b ≤ a := Nat.div_le_self _ _
  generalize a / b = q at this ⊢
  rw [Int.bmod_eq_of_le (by omega) (by omega)]
theorem own_rem64 {a b : Nat} (ha : a < 9223372036854775808) (hb : b < 9223372036854775808) : Int64.ofNat a - (Int64.ofNat a / Int64.ofNat b) * Int64.ofNat b = Int64.ofNat (a % b) := by
  rw [own_div64 ha hb]
  have h1 : a / b * b ≤ a := Nat.div_mul_le_self a b
  have h2 : a % b = a - a / b * b := by have := Nat.div_add_mod a b; rw [Nat.mul_comm] at this; omega
  rw [h2]
  have e1 : Int64.ofNat (a / b) * Int64.ofNat b = Int64.ofNat (a / b * b) := by
    apply own_i64_eq (by omega)
    have q : a / b ≤ a := Nat.div_le_self _ _
    rw [Int64.toInt_mul, own_i64 (by omega), own_i64 hb, ← Int.natCast_mul, Int.bmod_eq_of_le (by omega) (by omega)]
  rw [e1]
  apply own_i64_eq (by omega)
  rw [Int64.toInt_sub, own_i64 ha, own_i64 (by omega), Int.bmod_eq_of_le (by omega) (by omega)]
  omega
theorem own_step64 {a d : Nat} (h : a * 10 + d < 9223372036854775808) (hd : d < 10) : Int64.ofNat a * 10 + (Int32.ofNat (48 + d) - 48).toInt64 = Int64.ofNat (a * 10 + d) := by
  have e1 : (Int32.ofNat (48 + d) - 48) = Int32.ofNat d := by
    apply own_i32_eq (by omega)
    rw [Int32.toInt_sub, own_i32 (by omega)]
    have : (48 : Int32).toInt = 48 := rfl
    rw [this, Int.bmod_eq_of_le (by omega) (by omega)]; omega
  rw [e1]
  apply own_i64_eq h
  have e2 : (10 : Int64).toInt = 10 := rfl
  have e3 : (Int64.ofNat a * 10).toInt = (a * 10 : Nat) := by
    rw [Int64.toInt_mul, own_i64 (by omega), e2, Int.bmod_eq_of_le (by omega) (by omega)]; omega
  rw [Int64.toInt_add, e3, Int32.toInt_toInt64, own_i32 (by omega), Int.bmod_eq_of_le (by omega) (by omega)]
  omega
theorem own_digit {V P : Nat} (hV : V < 9223372036854775808) (hP : P < 9223372036854775808) : ((48 : Int32) + ((Int64.ofNat V / Int64.ofNat P) - ((Int64.ofNat V / Int64.ofNat P) / (10 : Int64)) * (10 : Int64)).toInt32).toUInt32.toUInt16.toUInt32.toInt32 = Int32.ofNat (48 + (V / P) % 10) := by
  have q : V / P ≤ V := Nat.div_le_self _ _
  rw [own_div64 hV hP]
  rw [show (10 : Int64) = Int64.ofNat 10 from rfl, own_rem64 (by omega) (by decide)]
  have t : ∀ k : Fin 10, ((48 : Int32) + (Int64.ofNat k.val).toInt32).toUInt32.toUInt16.toUInt32.toInt32 = Int32.ofNat (48 + k.val) := by decide +kernel
  exact t ⟨(V / P) % 10, Nat.mod_lt _ (by decide)⟩
theorem own_pow_lt {k : Nat} (h : k ≤ 18) : 10 ^ k < 9223372036854775808 := Nat.lt_of_le_of_lt (Nat.pow_le_pow_right (by decide) h) (by decide)
theorem own_w0 {V i : Nat} (h : i < 18) : V / 10 ^ (18 - (i + 1)) = V / 10 ^ (18 - i) * 10 + own_dg V i := by
  have e : 18 - i = (17 - i) + 1 := by omega
  have e' : 18 - (i + 1) = 17 - i := by omega
  unfold own_dg
  rw [e, e', Nat.pow_succ, ← Nat.div_div_eq_div_mul]
  omega
theorem own_w1 {V p k : Nat} (h : p + k < 18) : V / 10 ^ (18 - p - (k + 1)) % 10 ^ (k + 1) = V / 10 ^ (18 - p - k) % 10 ^ k * 10 + own_dg V (p + k) := by
  have e : 18 - p - k = (17 - (p + k)) + 1 := by omega
  have e' : 18 - p - (k + 1) = 17 - (p + k) := by omega
  unfold own_dg
  rw [e, e', Nat.pow_succ (n := 10) (m := 17 - (p + k)), ← Nat.div_div_eq_div_mul]
  generalize V / 10 ^ (17 - (p + k)) = x
  rw [Nat.pow_succ, Nat.mul_comm (10 ^ k) 10, Nat.mod_mul]
  omega
theorem own_nn {n : Nat} (h : n < 2147483648) : ¬ (Int32.ofNat n < 0) := by
  rw [Int32.lt_iff_toInt_lt, own_i32 h]; have : (0 : Int32).toInt = 0 := rfl; omega
theorem own_lt32 {a b : Nat} (h : a < b) (hb : b < 2147483648) : Int32.ofNat a < Int32.ofNat b := by
  rw [Int32.lt_iff_toInt_lt, own_i32 (by omega), own_i32 hb]; omega
theorem own_nlt32 {a b : Nat} (h : b ≤ a) (ha : a < 2147483648) : ¬ (Int32.ofNat a < Int32.ofNat b) := by
  rw [Int32.lt_iff_toInt_lt, own_i32 ha, own_i32 (by omega)]; omega
theorem own_clamp {n : Nat} (h : n < 2147483648) : (Int32.ofNat n).toNatClampNeg = n := by
  show (Int32.ofNat n).toInt.toNat = n
  rw [own_i32 h]; simp
theorem own_sub32 {a b : Nat} (h : b ≤ a) (ha : a < 2147483648) : Int32.ofNat a - Int32.ofNat b = Int32.ofNat (a - b) := by
  apply own_i32_eq (by omega)
  rw [Int32.toInt_sub, own_i32 ha, own_i32 (by omega), Int.bmod_eq_of_le (by omega) (by omega)]; omega
theorem own_succ (a : Nat) : Int32.ofNat a + (1 : Int32) = Int32.ofNat (a + 1) := by
  rw [Int32.ofNat_add]; rfl
theorem own_eq32 {a b : Nat} (ha : a < 2147483648) (hb : b < 2147483648) (e : Int32.ofNat a = Int32.ofNat b) : a = b := by
  have := congrArg Int32.toInt e
  rw [own_i32 ha, own_i32 hb] at this; omega
theorem own_narc {n : Nat} (h : n < 256) : nar .char (Int32.ofNat n) = Int32.ofNat n := by
  have t : ∀ k : Fin 256, (Int32.ofNat k.val).toUInt32.toUInt16.toUInt32.toInt32 = Int32.ofNat k.val := by decide +kernel
  exact t ⟨n, h⟩
theorem own_mask {n : Nat} (h : n < 256) : nar .char ((((Int32.ofNat n).toInt8.toInt32 &&& (255 : Int32)).toUInt32.toUInt16.toUInt32.toInt32)) = Int32.ofNat n := by
  have t : ∀ k : Fin 256, ((((Int32.ofNat k.val).toInt8.toInt32 &&& (255 : Int32)).toUInt32.toUInt16.toUInt32.toInt32)).toUInt32.toUInt16.toUInt32.toInt32 = Int32.ofNat k.val := by decide +kernel
  exact t ⟨n, h⟩
theorem own_take_set {α : Type} (xs : List α) (i : Nat) (h : i < xs.length) (d x : α) (hx : xs[i] = x) : (xs.take i ++ List.replicate 1 d).set i x = xs.take (i + 1) := by
  have hl : (xs.take i).length = i := by simp; omega
  rw [List.set_append_right _ _ (by omega), hl]
  simp [List.take_add_one, List.getElem?_eq_getElem h, hx]
theorem own_pv (x : Int32) : ∃ n : Nat, n ≤ 18 ∧ ((x &&& (2147483647 : Int32)) % (19 : Int32)) = Int32.ofNat n := by
  have h0 := (c_and x (2147483647 : Int32) (by decide)).1
  have h1 := (c_iremV (x &&& (2147483647 : Int32)) (19 : Int32)).1 h0 (by decide)
  have e : (19 : Int32).toInt = 19 := rfl
  refine ⟨((x &&& (2147483647 : Int32)) % (19 : Int32)).toInt.toNat, by omega, ?_⟩
  exact own_i32_eq (by omega) (by omega)
theorem own_vv (x : Int64) : ∃ n : Nat, n < 1000000000000000000 ∧ ((x &&& (9223372036854775807 : Int64)) - ((x &&& (9223372036854775807 : Int64)) / (1000000000000000000 : Int64)) * (1000000000000000000 : Int64)) = Int64.ofNat n := by
  have h0 := c_maskL x (9223372036854775807 : Int64) 63 (by decide) (by decide)
  have h1 := (c_lrem (x &&& (9223372036854775807 : Int64)) (1000000000000000000 : Int64) 1000000000000000000 (by decide)).1 (by rw [h0]; omega)
  refine ⟨((x &&& (9223372036854775807 : Int64)).toInt % 1000000000000000000).toNat, by omega, ?_⟩
  exact own_i64_eq (by omega) (by rw [h1]; omega)
def own_PW : List Value := [(.long (1 : Int64)), (.long (10 : Int64)), (.long (100 : Int64)), (.long (1000 : Int64)), (.long (10000 : Int64)), (.long (100000 : Int64)), (.long (1000000 : Int64)), (.long (10000000 : Int64)), (.long (100000000 : Int64)), (.long (1000000000 : Int64)), (.long (10000000000 : Int64)), (.long (100000000000 : Int64)), (.long (1000000000000 : Int64)), (.long (10000000000000 : Int64)), (.long (100000000000000 : Int64)), (.long (1000000000000000 : Int64)), (.long (10000000000000000 : Int64)), (.long (100000000000000000 : Int64)), (.long (1000000000000000000 : Int64))]
theorem own_pw_at {k : Nat} (h : k ≤ 18) : own_PW.getD k (.long (0 : Int64)) = .long (Int64.ofNat (10 ^ k)) := by
  have t : ∀ k : Fin 19, own_PW.getD k.val (.long (0 : Int64)) = .long (Int64.ofNat (10 ^ k.val)) := by decide +kernel
  exact t ⟨k, by omega⟩
theorem own_pw_ne {k : Nat} (h : k ≤ 18) : Int64.ofNat (10 ^ k) ≠ 0 := fun e => by
  have := congrArg Int64.toInt e
  rw [own_i64 (own_pow_lt h)] at this
  have z : (0 : Int64).toInt = 0 := rfl
  have hp : 0 < 10 ^ k := Nat.pow_pos (by decide)
  rw [z] at this
  generalize 10 ^ k = q at this hp
  omega
theorem own_pw_m {k : Nat} (h : k ≤ 18) : Int64.ofNat (10 ^ k) ≠ -1 := fun e => by
  have := congrArg Int64.toInt e
  rw [own_i64 (own_pow_lt h)] at this
  have z : (-1 : Int64).toInt = -1 := rfl
  rw [z] at this
  generalize 10 ^ k = q at this
  omega

theorem own_selP {Z s : State} {a0 args : Array Value} {y : MethodName} {kk : Nat} (hZ : Z.Warmed39 s.vm) (wi : (Jvm.Cond.instantiable y.cls kk).before a0 Z = true) (wm : (Jvm.Cond.instanceMethod y).before a0 Z = true) (wp : (Jvm.Cond.privateMethod y).before a0 Z = true) (hy : y.cls ≠ "java/lang/invoke/MethodHandle" ∧ y.cls ≠ "java/lang/invoke/VarHandle") : (Jvm.Cond.selects y.cls y y).before args s = true := by
  obtain ⟨c, k, h1, h2, h3, h4, -⟩ := Cond.instantiable_spec (mvT (args := args) hZ wi)
  exact Jvm.Stand.selects_self_of_private h1 h2 (by simp only [Bool.or_eq_false_iff] at h4; exact h4.1) (Cond.privateMethod_at (mvP hZ wp (args := args))) (mvT hZ wm) hy

theorem own_up (cs : List Int32) (h : ∀ c ∈ cs, ¬ c < 0 ∧ ¬ (255 : Int32) < c) : ∀ c ∈ cs, ¬ c < 0 ∧ ¬ (65535 : Int32) < c := fun c hc => ⟨(h c hc).1, fun q => (h c hc).2 (by rw [Int32.lt_iff_toInt_lt] at q ⊢; have e1 : (65535 : Int32).toInt = 65535 := rfl; have e2 : (255 : Int32).toInt = 255 := rfl; omega)⟩
theorem pd___I : parseMethodDescriptor "()I" = some ⟨[], some .int⟩ := by decide +kernel
theorem pd___V : parseMethodDescriptor "()V" = some ⟨[], none⟩ := by decide +kernel
theorem pd___Z : parseMethodDescriptor "()Z" = some ⟨[], some .boolean⟩ := by decide +kernel
theorem pd__I_J : parseMethodDescriptor "(I)J" = some ⟨[.int], some .long⟩ := by decide +kernel
theorem pd__II_V : parseMethodDescriptor "(II)V" = some ⟨[.int, .int], none⟩ := by decide +kernel
theorem pd__III_I : parseMethodDescriptor "(III)I" = some ⟨[.int, .int, .int], some .int⟩ := by decide +kernel
theorem pd__III_V : parseMethodDescriptor "(III)V" = some ⟨[.int, .int, .int], none⟩ := by decide +kernel
theorem pd__IIILjava_util_function_BiFunction__I : parseMethodDescriptor "(IIILjava/util/function/BiFunction;)I" = some ⟨[.int, .int, .int, (.object "java/util/function/BiFunction")], some .int⟩ := by decide +kernel
theorem pd__II_CI_V : parseMethodDescriptor "(II[CI)V" = some ⟨[.int, .int, (.array .char), .int], none⟩ := by decide +kernel
theorem pd__JII_J_C : parseMethodDescriptor "(JII[J)C" = some ⟨[.long, .int, .int, (.array .long)], some .char⟩ := by decide +kernel
theorem pd__JI_J_C : parseMethodDescriptor "(JI[J)C" = some ⟨[.long, .int, (.array .long)], some .char⟩ := by decide +kernel
theorem pd__Ljava_lang_String__V : parseMethodDescriptor "(Ljava/lang/String;)V" = some ⟨[(.object "java/lang/String")], none⟩ := by decide +kernel
theorem pd__Ljava_lang_String_C_V : parseMethodDescriptor "(Ljava/lang/String;C)V" = some ⟨[(.object "java/lang/String"), .char], none⟩ := by decide +kernel
theorem pd___BII_CI_V : parseMethodDescriptor "([BII[CI)V" = some ⟨[(.array .byte), .int, .int, (.array .char), .int], none⟩ := by decide +kernel
theorem pd___BI_CII_V : parseMethodDescriptor "([BI[CII)V" = some ⟨[(.array .byte), .int, (.array .char), .int, .int], none⟩ := by decide +kernel
theorem pd___C_V : parseMethodDescriptor "([C)V" = some ⟨[(.array .char)], none⟩ := by decide +kernel
theorem dD_0 : decode method_3_code 0 = .ok (.bipush 48, 2) := by decide +kernel
theorem dD_2 : decode method_3_code 2 = .ok (.lload_n 0, 1) := by decide +kernel
theorem dD_3 : decode method_3_code 3 = .ok (.aload_n 3, 1) := by decide +kernel
theorem dD_4 : decode method_3_code 4 = .ok (.bipush 17, 2) := by decide +kernel
theorem dD_6 : decode method_3_code 6 = .ok (.iload_n 2, 1) := by decide +kernel
theorem dD_7 : decode method_3_code 7 = .ok (.isub, 1) := by decide +kernel
theorem dD_8 : decode method_3_code 8 = .ok (.laload, 1) := by decide +kernel
theorem dD_9 : decode method_3_code 9 = .ok (.ldiv, 1) := by decide +kernel
theorem dD_10 : decode method_3_code 10 = .ok (.ldc2_w 7, 3) := by decide +kernel
theorem dD_13 : decode method_3_code 13 = .ok (.lrem, 1) := by decide +kernel
theorem dD_14 : decode method_3_code 14 = .ok (.l2i, 1) := by decide +kernel
theorem dD_15 : decode method_3_code 15 = .ok (.iadd, 1) := by decide +kernel
theorem dD_16 : decode method_3_code 16 = .ok (.i2c, 1) := by decide +kernel
theorem dD_17 : decode method_3_code 17 = .ok (.ireturn, 1) := by decide +kernel
theorem pnL : plainName "com/example/allotrope/allotrope/workload/FieldsWholePinLaw" = true := by first | (simp [plainName, overriddenIn]; done) | decide +kernel
theorem efD (m : MethodId) (x0 : Int64) (x1 : Int32) (x2 : Addr) : entryFrame m #[(.long x0), (.int x1), (.ref x2)] 4 = mkF m 0 #[.val (.long x0), .second, .val (.int x1), .val (.ref x2)] [] := by first | (simp [entryFrame, mkF, argsToLocals, Value.category]; done) | rfl
def QD (W k : Nat) (h0 : Heap) (n0 : Nat) (v : Option Value) (h : Heap) (L : List Loc) : Prop := v = some (.int (Int32.ofNat (48 + own_dg W k))) ∧ Fr n0 L ∧ h = h0
set_option maxRecDepth 65536 in
set_option maxHeartbeats 40000000 in
theorem rmD (l : Launch) (Z : State) (a0 : Array Value) (hw : ∀ d ∈ tables_1, d.before a0 Z = true) (ws : List Jvm.Cond) (W k : Nat) (ki : Int32) (pa : Addr) (kp : ClassId) (h0 : Heap) (n0 : Nat) (hW : W < 9223372036854775808) (hk : k ≤ 17) (hki : ki = Int32.ofNat k) (VP : Arv Z h0 pa kp .long (19 : Int32) own_PW (.long (0 : Int64))) :
    MetFree l (⟨"com/example/allotrope/allotrope/workload/FieldsWholePinLaw", "digit", "(JI[J)C"⟩ : MethodName) (head1 (Jvm.Cond.code (⟨"com/example/allotrope/allotrope/workload/FieldsWholePinLaw", "digit", "(JI[J)C"⟩ : MethodName) method_3_code 4 (some .char) :: ws) ({ frames := 0, cells := 0, slots := 0, locals := 0 } : Room)) (fun as_ U => as_ = #[(.long (Int64.ofNat W)), (.int ki), (.ref pa)] ∧ Z.Warmed39 U.vm ∧ U.heap = h0) (fun _ _ _ _ _ => True) (fun _ U o U' => ∃ v L, o = .returned v ∧ QD W k h0 n0 v U'.heap L ∧ FrameEnd U o U' L ({ frames := 0, cells := 0, slots := 0, locals := 0 } : Room).cells ({ frames := 0, cells := 0, slots := 0, locals := 0 } : Room).slots) := by
  refine MetFree.of_bodySF (plainFor_of_name pnL) hisR ?_
  intro p e s m args below meth c s₁ Bd hml0 hP hK
  obtain ⟨rfl, hZ, hh⟩ := hP
  have hx := Bd.exec
  have hby := Bd.bytes
  have hml : c.maxLocals = 4 := hml0
  have hown : s.vm.findClass "com/example/allotrope/allotrope/workload/FieldsWholePinLaw" = some m.cls := findClass_of_methodNamed Bd.named
  have hnm := (name_of_methodNamed Bd.named Bd.method).1
  have X0 : Stand p l e ({ frames := 0, cells := 0, slots := 0, locals := 0 } : Room) s m #[(.long (Int64.ofNat W)), (.int ki), (.ref pa)] below meth c s₁ [] 0 0 := Stand.of_body Bd
  have e0 : s₁.heap = h0 := by rw [← hh, Bd.state]; rfl
  have N0 := Fr.nil n0
  have go0 : ∀ tg_, Steps p.tables e below (s₁.setTop (mkF m 0 #[.val (.long (Int64.ofNat W)), .second, .val (.int ki), .val (.ref pa)] [])) tg_ → Steps p.tables e below (s₁.setTop (entryFrame m #[(.long (Int64.ofNat W)), (.int ki), (.ref pa)] 4)) tg_ := fun tg_ k => castTop (efD m (Int64.ofNat W) ki pa) k
  subst hki
  have hj : (17 : Int32) - (Int32.ofNat k) = Int32.ofNat (17 - k) := own_sub32 (a := 17) hk (by decide)
  obtain ⟨cl101, Ar101, q101, S101, M101, Hh101, G101⟩ := id VP
  have hin101 : ¬ (((17 : Int32) - (Int32.ofNat k)) < 0 ∨ cl101.slots.size ≤ (((17 : Int32) - (Int32.ofNat k))).toNatClampNeg) := inb_of S101 ⟨by rw [hj]; exact own_nn (by omega), by rw [hj]; exact own_lt32 (b := 19) (by omega) (by decide)⟩
  have hat101 : cl101.slots[(((17 : Int32) - (Int32.ofNat k))).toNatClampNeg]? = some (.long (Int64.ofNat (10 ^ (17 - k)))) := Has.at Hh101 hin101 (by rw [hj, own_clamp (by omega)]; exact own_pw_at (by omega))
  have hd : nar .char (((48 : Int32) + ((((Int64.ofNat W) / (Int64.ofNat (10 ^ (17 - k)))) - (((Int64.ofNat W) / (Int64.ofNat (10 ^ (17 - k)))) / (10 : Int64)) * (10 : Int64)).toInt32)).toUInt32.toUInt16.toUInt32.toInt32) = Int32.ofNat (48 + own_dg W k) := by
    rw [own_digit hW (own_pow_lt (by omega))]
    exact own_narc (by have := own_dg_lt W k; unfold own_dg at this; omega)
  obtain ⟨fs, hr, hrun, hended, hW, hsame⟩ := X0.leave (v := some (.int (nar .char (((48 : Int32) + ((((Int64.ofNat W) / (Int64.ofNat (10 ^ (17 - k)))) - (((Int64.ofNat W) / (Int64.ofNat (10 ^ (17 - k)))) / (10 : Int64)) * (10 : Int64)).toInt32)).toUInt32.toUInt16.toUInt32.toInt32)))) (fun h => by rw [Bd.returns] at h; cases h)
  refine ⟨_, _, go0 _ ?_, hrun, hended, _, _, rfl, ?_, ⟨_, rfl⟩, hW, hsame.mono (by decide) (by decide)⟩
  · show Steps p.tables e below (s₁.setTop (mkF m 0 #[.val (.long (Int64.ofNat W)), .second, .val (.int (Int32.ofNat k)), .val (.ref pa)] [])) _
    refine XS.bipush X0.here hx rfl (hb hby dD_0) ?_
    show Steps p.tables e below (s₁.setTop (mkF m 2 #[.val (.long (Int64.ofNat W)), .second, .val (.int (Int32.ofNat k)), .val (.ref pa)] [(.int (48 : Int32))])) _
    refine XS.lloadN X0.here hx rfl (hb hby dD_2) rfl ?_
    show Steps p.tables e below (s₁.setTop (mkF m 3 #[.val (.long (Int64.ofNat W)), .second, .val (.int (Int32.ofNat k)), .val (.ref pa)] [(.long (Int64.ofNat W)), (.int (48 : Int32))])) _
    refine XS.aloadN X0.here hx rfl (hb hby dD_3) rfl rfl ?_
    show Steps p.tables e below (s₁.setTop (mkF m 4 #[.val (.long (Int64.ofNat W)), .second, .val (.int (Int32.ofNat k)), .val (.ref pa)] [(.ref pa), (.long (Int64.ofNat W)), (.int (48 : Int32))])) _
    refine XS.bipush X0.here hx rfl (hb hby dD_4) ?_
    show Steps p.tables e below (s₁.setTop (mkF m 6 #[.val (.long (Int64.ofNat W)), .second, .val (.int (Int32.ofNat k)), .val (.ref pa)] [(.int (17 : Int32)), (.ref pa), (.long (Int64.ofNat W)), (.int (48 : Int32))])) _
    refine XS.iloadN X0.here hx rfl (hb hby dD_6) rfl ?_
    show Steps p.tables e below (s₁.setTop (mkF m 7 #[.val (.long (Int64.ofNat W)), .second, .val (.int (Int32.ofNat k)), .val (.ref pa)] [(.int (Int32.ofNat k)), (.int (17 : Int32)), (.ref pa), (.long (Int64.ofNat W)), (.int (48 : Int32))])) _
    refine XS.isub X0.here hx rfl (hb hby dD_7) rfl ?_
    show Steps p.tables e below (s₁.setTop (mkF m 8 #[.val (.long (Int64.ofNat W)), .second, .val (.int (Int32.ofNat k)), .val (.ref pa)] [(.int ((17 : Int32) - (Int32.ofNat k))), (.ref pa), (.long (Int64.ofNat W)), (.int (48 : Int32))])) _
    refine X0.laload hx (j := ((17 : Int32) - (Int32.ofNat k))) (v := (.long (Int64.ofNat (10 ^ (17 - k))))) (by rw [e0]; exact Ar101.1) (State.isArrayOf_alike hZ.alike Ar101.2.1) Ar101.2.2 hin101 hat101 (g := (mkF m 8 #[.val (.long (Int64.ofNat W)), .second, .val (.int (Int32.ofNat k)), .val (.ref pa)] [(.int ((17 : Int32) - (Int32.ofNat k))), (.ref pa), (.long (Int64.ofNat W)), (.int (48 : Int32))])) rfl rfl (hb hby dD_8) _ ?_
    show Steps p.tables e below (s₁.setTop (mkF m 9 #[.val (.long (Int64.ofNat W)), .second, .val (.int (Int32.ofNat k)), .val (.ref pa)] [(.long (Int64.ofNat (10 ^ (17 - k)))), (.long (Int64.ofNat W)), (.int (48 : Int32))])) _
    refine XS.ldiv X0.here hx rfl (hb hby dD_9) rfl (own_pw_ne (by omega)) ?_
    show Steps p.tables e below (s₁.setTop (mkF m 10 #[.val (.long (Int64.ofNat W)), .second, .val (.int (Int32.ofNat k)), .val (.ref pa)] [(.long ((Int64.ofNat W) / (Int64.ofNat (10 ^ (17 - k))))), (.int (48 : Int32))])) _
    refine X0.ldc2Long hx hown (mvT hZ (hw _ (List.mem_of_getElem? (i := 1) rfl))) (g := (mkF m 10 #[.val (.long (Int64.ofNat W)), .second, .val (.int (Int32.ofNat k)), .val (.ref pa)] [(.long ((Int64.ofNat W) / (Int64.ofNat (10 ^ (17 - k))))), (.int (48 : Int32))])) rfl (hb hby dD_10) _ ?_
    show Steps p.tables e below (s₁.setTop (mkF m 13 #[.val (.long (Int64.ofNat W)), .second, .val (.int (Int32.ofNat k)), .val (.ref pa)] [(.long (10 : Int64)), (.long ((Int64.ofNat W) / (Int64.ofNat (10 ^ (17 - k))))), (.int (48 : Int32))])) _
    refine XS.lrem X0.here hx rfl (hb hby dD_13) rfl (by decide) ?_
    show Steps p.tables e below (s₁.setTop (mkF m 14 #[.val (.long (Int64.ofNat W)), .second, .val (.int (Int32.ofNat k)), .val (.ref pa)] [(.long (((Int64.ofNat W) / (Int64.ofNat (10 ^ (17 - k)))) - (((Int64.ofNat W) / (Int64.ofNat (10 ^ (17 - k)))) / (10 : Int64)) * (10 : Int64))), (.int (48 : Int32))])) _
    refine XS.l2i X0.here hx rfl (hb hby dD_14) rfl ?_
    show Steps p.tables e below (s₁.setTop (mkF m 15 #[.val (.long (Int64.ofNat W)), .second, .val (.int (Int32.ofNat k)), .val (.ref pa)] [(.int ((((Int64.ofNat W) / (Int64.ofNat (10 ^ (17 - k)))) - (((Int64.ofNat W) / (Int64.ofNat (10 ^ (17 - k)))) / (10 : Int64)) * (10 : Int64)).toInt32)), (.int (48 : Int32))])) _
    refine XS.iadd X0.here hx rfl (hb hby dD_15) rfl ?_
    show Steps p.tables e below (s₁.setTop (mkF m 16 #[.val (.long (Int64.ofNat W)), .second, .val (.int (Int32.ofNat k)), .val (.ref pa)] [(.int ((48 : Int32) + ((((Int64.ofNat W) / (Int64.ofNat (10 ^ (17 - k)))) - (((Int64.ofNat W) / (Int64.ofNat (10 ^ (17 - k)))) / (10 : Int64)) * (10 : Int64)).toInt32)))])) _
    refine XS.i2c X0.here hx rfl (hb hby dD_16) rfl ?_
    show Steps p.tables e below (s₁.setTop (mkF m 17 #[.val (.long (Int64.ofNat W)), .second, .val (.int (Int32.ofNat k)), .val (.ref pa)] [(.int (((48 : Int32) + ((((Int64.ofNat W) / (Int64.ofNat (10 ^ (17 - k)))) - (((Int64.ofNat W) / (Int64.ofNat (10 ^ (17 - k)))) / (10 : Int64)) * (10 : Int64)).toInt32)).toUInt32.toUInt16.toUInt32.toInt32))])) _
    exact retN X0 hx (t := .char) Bd.returns (by simp) (hb hby dD_17) hr
  · show QD W k h0 n0 _ s₁.heap _
    rw [e0]
    exact ⟨congrArg (fun z => some (Value.int z)) hd, N0, rfl⟩
theorem dC_0 : decode method_4_code 0 = .ok (.iload_n 3, 1) := by decide +kernel
theorem dC_1 : decode method_4_code 1 = .ok (.iload_n 2, 1) := by decide +kernel
theorem dC_2 : decode method_4_code 2 = .ok (.if_icmp .ge 11, 3) := by decide +kernel
theorem dC_5 : decode method_4_code 5 = .ok (.lload_n 0, 1) := by decide +kernel
theorem dC_6 : decode method_4_code 6 = .ok (.iload_n 3, 1) := by decide +kernel
theorem dC_7 : decode method_4_code 7 = .ok (.aload 4, 2) := by decide +kernel
theorem dC_9 : decode method_4_code 9 = .ok (.invokestatic 74, 3) := by decide +kernel
theorem dC_12 : decode method_4_code 12 = .ok (.ireturn, 1) := by decide +kernel
theorem dC_13 : decode method_4_code 13 = .ok (.iload_n 3, 1) := by decide +kernel
theorem dC_14 : decode method_4_code 14 = .ok (.iload_n 2, 1) := by decide +kernel
theorem dC_15 : decode method_4_code 15 = .ok (.if_icmp .ne 6, 3) := by decide +kernel
theorem dC_18 : decode method_4_code 18 = .ok (.bipush 44, 2) := by decide +kernel
theorem dC_20 : decode method_4_code 20 = .ok (.ireturn, 1) := by decide +kernel
theorem dC_21 : decode method_4_code 21 = .ok (.lload_n 0, 1) := by decide +kernel
theorem dC_22 : decode method_4_code 22 = .ok (.iload_n 3, 1) := by decide +kernel
theorem dC_23 : decode method_4_code 23 = .ok (.iconst 1, 1) := by decide +kernel
theorem dC_24 : decode method_4_code 24 = .ok (.isub, 1) := by decide +kernel
theorem dC_25 : decode method_4_code 25 = .ok (.aload 4, 2) := by decide +kernel
theorem dC_27 : decode method_4_code 27 = .ok (.invokestatic 74, 3) := by decide +kernel
theorem dC_30 : decode method_4_code 30 = .ok (.ireturn, 1) := by decide +kernel
theorem efC (m : MethodId) (x0 : Int64) (x1 : Int32) (x2 : Int32) (x3 : Addr) : entryFrame m #[(.long x0), (.int x1), (.int x2), (.ref x3)] 5 = mkF m 0 #[.val (.long x0), .second, .val (.int x1), .val (.int x2), .val (.ref x3)] [] := by first | (simp [entryFrame, mkF, argsToLocals, Value.category]; done) | rfl
def QC (W pp i : Nat) (h0 : Heap) (n0 : Nat) (v : Option Value) (h : Heap) (L : List Loc) : Prop := v = some (.int (Int32.ofNat (own_ch W pp i))) ∧ Fr n0 L ∧ h = h0
set_option maxRecDepth 65536 in
set_option maxHeartbeats 40000000 in
theorem rmC_a (l : Launch) (Z : State) (a0 : Array Value) (hw : ∀ d ∈ tables_1, d.before a0 Z = true) (ws : List Jvm.Cond) (W pp i : Nat) (pa : Addr) (kp : ClassId) (h0 : Heap) (n0 : Nat) (hW : W < 9223372036854775808) (hp : pp ≤ 18) (hi : i ≤ 18) (VP : Arv Z h0 pa kp .long (19 : Int32) own_PW (.long (0 : Int64))) (q : i < pp) :
    MetFree l (⟨"com/example/allotrope/allotrope/workload/FieldsWholePinLaw", "ch", "(JII[J)C"⟩ : MethodName) (head1 (Jvm.Cond.code (⟨"com/example/allotrope/allotrope/workload/FieldsWholePinLaw", "ch", "(JII[J)C"⟩ : MethodName) method_4_code 5 (some .char) :: ws) ({ frames := 1, cells := 0, slots := 0, locals := 15 } : Room)) (fun as_ U => as_ = #[(.long (Int64.ofNat W)), (.int (Int32.ofNat pp)), (.int (Int32.ofNat i)), (.ref pa)] ∧ Z.Warmed39 U.vm ∧ U.heap = h0) (fun _ _ _ _ _ => True) (fun _ U o U' => ∃ v L, o = .returned v ∧ QC W pp i h0 n0 v U'.heap L ∧ FrameEnd U o U' L ({ frames := 1, cells := 0, slots := 0, locals := 15 } : Room).cells ({ frames := 1, cells := 0, slots := 0, locals := 15 } : Room).slots) := by
  refine MetFree.of_bodySF (plainFor_of_name pnL) hisR ?_
  intro p e s m args below meth c s₁ Bd hml0 hP hK
  obtain ⟨rfl, hZ, hh⟩ := hP
  have hx := Bd.exec
  have hby := Bd.bytes
  have hml : c.maxLocals = 5 := hml0
  have hown : s.vm.findClass "com/example/allotrope/allotrope/workload/FieldsWholePinLaw" = some m.cls := findClass_of_methodNamed Bd.named
  have hnm := (name_of_methodNamed Bd.named Bd.method).1
  have X0 : Stand p l e ({ frames := 1, cells := 0, slots := 0, locals := 15 } : Room) s m #[(.long (Int64.ofNat W)), (.int (Int32.ofNat pp)), (.int (Int32.ofNat i)), (.ref pa)] below meth c s₁ [] 0 0 := Stand.of_body Bd
  have e0 : s₁.heap = h0 := by rw [← hh, Bd.state]; rfl
  have N0 := Fr.nil n0
  have go0 : ∀ tg_, Steps p.tables e below (s₁.setTop (mkF m 0 #[.val (.long (Int64.ofNat W)), .second, .val (.int (Int32.ofNat pp)), .val (.int (Int32.ofNat i)), .val (.ref pa)] [])) tg_ → Steps p.tables e below (s₁.setTop (entryFrame m #[(.long (Int64.ofNat W)), (.int (Int32.ofNat pp)), (.int (Int32.ofNat i)), (.ref pa)] 5)) tg_ := fun tg_ k => castTop (efC m (Int64.ofNat W) (Int32.ofNat pp) (Int32.ofNat i) pa) k
  obtain ⟨_, _, ⟨T101, L101, kk101, nn101⟩, -, X101, ⟨Lc101, hQ101, l101, y101, z101⟩, st101⟩ := Jvm.LawKit.callS X0 hx (y := (⟨"com/example/allotrope/allotrope/workload/FieldsWholePinLaw", "digit", "(JI[J)C"⟩ : MethodName)) hown (mvT hZ (hw _ (List.mem_of_getElem? (i := 26) rfl))) (mvT hZ (hw _ (List.mem_of_getElem? (i := 27) rfl))) (mvT hZ (hw _ (List.mem_of_getElem? (i := 24) rfl))) (mvT hZ (hw _ (List.mem_of_getElem? (i := 28) rfl))) (by decide) (backOf (W := 0) (rmD l Z a0 hw [] W i (Int32.ofNat i) pa kp h0 n0 hW (by omega) rfl VP) hZ (hw _ (List.mem_of_getElem? (i := 28) rfl)) (hw _ (List.mem_of_getElem? (i := 24) rfl)) (by decide) (by decide)) (g := (mkF m 9 #[.val (.long (Int64.ofNat W)), .second, .val (.int (Int32.ofNat pp)), .val (.int (Int32.ofNat i)), .val (.ref pa)] [(.ref pa), (.int (Int32.ofNat i)), (.long (Int64.ofNat W))])) rfl (by rw [hml]; rfl) (argsL := [(.long (Int64.ofNat W)), (.int (Int32.ofNat i)), (.ref pa)]) (rest := []) (lenOf pd__JI_J_C rfl) rfl (by show 2 * 0 + _ ≤ _; exact Nat.le_of_eq rfl) (hb hby dC_9) (fun _ _ => ⟨rfl, e0, Nat.le_of_ble_eq_true rfl, Nat.le_of_ble_eq_true rfl⟩)
  dsimp only [Pt.U, Pt.locs, Pt.cells, Pt.slots] at X101 l101 y101 z101 st101 hQ101
  subst l101 y101 z101
  obtain ⟨rfl, Nq101, e101⟩ := hQ101
  have N101 := Fr.app N0 Nq101
  have hd : nar .char (Int32.ofNat (48 + own_dg W i)) = Int32.ofNat (own_ch W pp i) := by
    have q2 := own_dg_lt W i
    rw [own_narc (by omega)]
    exact congrArg Int32.ofNat (by unfold own_ch; rw [if_pos q])
  obtain ⟨fs, hr, hrun, hended, hW, hsame⟩ := X101.leave (v := some (.int (nar .char (Int32.ofNat (48 + own_dg W i))))) (fun h => by rw [Bd.returns] at h; cases h)
  refine ⟨_, _, go0 _ ?_, hrun, hended, _, _, rfl, ?_, ⟨_, rfl⟩, hW, hsame.mono (by decide) (by decide)⟩
  · show Steps p.tables e below (s₁.setTop (mkF m 0 #[.val (.long (Int64.ofNat W)), .second, .val (.int (Int32.ofNat pp)), .val (.int (Int32.ofNat i)), .val (.ref pa)] [])) _
    refine XS.iloadN X0.here hx rfl (hb hby dC_0) rfl ?_
    show Steps p.tables e below (s₁.setTop (mkF m 1 #[.val (.long (Int64.ofNat W)), .second, .val (.int (Int32.ofNat pp)), .val (.int (Int32.ofNat i)), .val (.ref pa)] [(.int (Int32.ofNat i))])) _
    refine XS.iloadN X0.here hx rfl (hb hby dC_1) rfl ?_
    show Steps p.tables e below (s₁.setTop (mkF m 2 #[.val (.long (Int64.ofNat W)), .second, .val (.int (Int32.ofNat pp)), .val (.int (Int32.ofNat i)), .val (.ref pa)] [(.int (Int32.ofNat pp)), (.int (Int32.ofNat i))])) _
    refine XS.icmpNo X0.here hx rfl (hb hby dC_2) rfl (tlt (own_lt32 q (by omega) : (Int32.ofNat i) < (Int32.ofNat pp))).2.1 ?_
    show Steps p.tables e below (s₁.setTop (mkF m 5 #[.val (.long (Int64.ofNat W)), .second, .val (.int (Int32.ofNat pp)), .val (.int (Int32.ofNat i)), .val (.ref pa)] [])) _
    refine XS.lloadN X0.here hx rfl (hb hby dC_5) rfl ?_
    show Steps p.tables e below (s₁.setTop (mkF m 6 #[.val (.long (Int64.ofNat W)), .second, .val (.int (Int32.ofNat pp)), .val (.int (Int32.ofNat i)), .val (.ref pa)] [(.long (Int64.ofNat W))])) _
    refine XS.iloadN X0.here hx rfl (hb hby dC_6) rfl ?_
    show Steps p.tables e below (s₁.setTop (mkF m 7 #[.val (.long (Int64.ofNat W)), .second, .val (.int (Int32.ofNat pp)), .val (.int (Int32.ofNat i)), .val (.ref pa)] [(.int (Int32.ofNat i)), (.long (Int64.ofNat W))])) _
    refine XS.aload X0.here hx rfl (hb hby dC_7) rfl rfl ?_
    show Steps p.tables e below (s₁.setTop (mkF m 9 #[.val (.long (Int64.ofNat W)), .second, .val (.int (Int32.ofNat pp)), .val (.int (Int32.ofNat i)), .val (.ref pa)] [(.ref pa), (.int (Int32.ofNat i)), (.long (Int64.ofNat W))])) _
    refine st101 _ ?_
    show Steps p.tables e below (T101.setTop (mkF m 12 #[.val (.long (Int64.ofNat W)), .second, .val (.int (Int32.ofNat pp)), .val (.int (Int32.ofNat i)), .val (.ref pa)] [(.int (Int32.ofNat (48 + own_dg W i)))])) _
    exact retN X101 hx (t := .char) Bd.returns (by simp) (hb hby dC_12) hr
  · show QC W pp i h0 n0 _ T101.heap _
    rw [e101]
    exact ⟨congrArg (fun z => some (Value.int z)) hd, N101, rfl⟩
set_option maxRecDepth 65536 in
set_option maxHeartbeats 40000000 in
theorem rmC_b (l : Launch) (Z : State) (a0 : Array Value) (hw : ∀ d ∈ tables_1, d.before a0 Z = true) (ws : List Jvm.Cond) (W pp i : Nat) (pa : Addr) (kp : ClassId) (h0 : Heap) (n0 : Nat) (hW : W < 9223372036854775808) (hp : pp ≤ 18) (hi : i ≤ 18) (VP : Arv Z h0 pa kp .long (19 : Int32) own_PW (.long (0 : Int64))) (q : i = pp) :
    MetFree l (⟨"com/example/allotrope/allotrope/workload/FieldsWholePinLaw", "ch", "(JII[J)C"⟩ : MethodName) (head1 (Jvm.Cond.code (⟨"com/example/allotrope/allotrope/workload/FieldsWholePinLaw", "ch", "(JII[J)C"⟩ : MethodName) method_4_code 5 (some .char) :: ws) ({ frames := 1, cells := 0, slots := 0, locals := 15 } : Room)) (fun as_ U => as_ = #[(.long (Int64.ofNat W)), (.int (Int32.ofNat pp)), (.int (Int32.ofNat i)), (.ref pa)] ∧ Z.Warmed39 U.vm ∧ U.heap = h0) (fun _ _ _ _ _ => True) (fun _ U o U' => ∃ v L, o = .returned v ∧ QC W pp i h0 n0 v U'.heap L ∧ FrameEnd U o U' L ({ frames := 1, cells := 0, slots := 0, locals := 15 } : Room).cells ({ frames := 1, cells := 0, slots := 0, locals := 15 } : Room).slots) := by
  refine MetFree.of_bodySF (plainFor_of_name pnL) hisR ?_
  intro p e s m args below meth c s₁ Bd hml0 hP hK
  obtain ⟨rfl, hZ, hh⟩ := hP
  have hx := Bd.exec
  have hby := Bd.bytes
  have hml : c.maxLocals = 5 := hml0
  have hown : s.vm.findClass "com/example/allotrope/allotrope/workload/FieldsWholePinLaw" = some m.cls := findClass_of_methodNamed Bd.named
  have hnm := (name_of_methodNamed Bd.named Bd.method).1
  have X0 : Stand p l e ({ frames := 1, cells := 0, slots := 0, locals := 15 } : Room) s m #[(.long (Int64.ofNat W)), (.int (Int32.ofNat pp)), (.int (Int32.ofNat i)), (.ref pa)] below meth c s₁ [] 0 0 := Stand.of_body Bd
  have e0 : s₁.heap = h0 := by rw [← hh, Bd.state]; rfl
  have N0 := Fr.nil n0
  have go0 : ∀ tg_, Steps p.tables e below (s₁.setTop (mkF m 0 #[.val (.long (Int64.ofNat W)), .second, .val (.int (Int32.ofNat pp)), .val (.int (Int32.ofNat i)), .val (.ref pa)] [])) tg_ → Steps p.tables e below (s₁.setTop (entryFrame m #[(.long (Int64.ofNat W)), (.int (Int32.ofNat pp)), (.int (Int32.ofNat i)), (.ref pa)] 5)) tg_ := fun tg_ k => castTop (efC m (Int64.ofNat W) (Int32.ofNat pp) (Int32.ofNat i) pa) k
  have hd : nar .char (44 : Int32) = Int32.ofNat (own_ch W pp i) := by
    rw [(own_ch_sep W pp i).mpr q]; rfl
  obtain ⟨fs, hr, hrun, hended, hW, hsame⟩ := X0.leave (v := some (.int (nar .char (44 : Int32)))) (fun h => by rw [Bd.returns] at h; cases h)
  refine ⟨_, _, go0 _ ?_, hrun, hended, _, _, rfl, ?_, ⟨_, rfl⟩, hW, hsame.mono (by decide) (by decide)⟩
  · show Steps p.tables e below (s₁.setTop (mkF m 0 #[.val (.long (Int64.ofNat W)), .second, .val (.int (Int32.ofNat pp)), .val (.int (Int32.ofNat i)), .val (.ref pa)] [])) _
    refine XS.iloadN X0.here hx rfl (hb hby dC_0) rfl ?_
    show Steps p.tables e below (s₁.setTop (mkF m 1 #[.val (.long (Int64.ofNat W)), .second, .val (.int (Int32.ofNat pp)), .val (.int (Int32.ofNat i)), .val (.ref pa)] [(.int (Int32.ofNat i))])) _
    refine XS.iloadN X0.here hx rfl (hb hby dC_1) rfl ?_
    show Steps p.tables e below (s₁.setTop (mkF m 2 #[.val (.long (Int64.ofNat W)), .second, .val (.int (Int32.ofNat pp)), .val (.int (Int32.ofNat i)), .val (.ref pa)] [(.int (Int32.ofNat pp)), (.int (Int32.ofNat i))])) _
    refine XS.icmpYes X0.here hx rfl (pc0 := 2) (pc' := 13) rfl (hb hby dC_2) rfl (flt (own_nlt32 (by omega) (by omega) : ¬ ((Int32.ofNat i) < (Int32.ofNat pp)))).2.1 (by decide) (by decide) ?_
    show Steps p.tables e below (s₁.setTop (mkF m 13 #[.val (.long (Int64.ofNat W)), .second, .val (.int (Int32.ofNat pp)), .val (.int (Int32.ofNat i)), .val (.ref pa)] [])) _
    refine XS.iloadN X0.here hx rfl (hb hby dC_13) rfl ?_
    show Steps p.tables e below (s₁.setTop (mkF m 14 #[.val (.long (Int64.ofNat W)), .second, .val (.int (Int32.ofNat pp)), .val (.int (Int32.ofNat i)), .val (.ref pa)] [(.int (Int32.ofNat i))])) _
    refine XS.iloadN X0.here hx rfl (hb hby dC_14) rfl ?_
    show Steps p.tables e below (s₁.setTop (mkF m 15 #[.val (.long (Int64.ofNat W)), .second, .val (.int (Int32.ofNat pp)), .val (.int (Int32.ofNat i)), .val (.ref pa)] [(.int (Int32.ofNat pp)), (.int (Int32.ofNat i))])) _
    refine XS.icmpNo X0.here hx rfl (hb hby dC_15) rfl (teq (by rw [q] : (Int32.ofNat i) = (Int32.ofNat pp))).2 ?_
    show Steps p.tables e below (s₁.setTop (mkF m 18 #[.val (.long (Int64.ofNat W)), .second, .val (.int (Int32.ofNat pp)), .val (.int (Int32.ofNat i)), .val (.ref pa)] [])) _
    refine XS.bipush X0.here hx rfl (hb hby dC_18) ?_
    show Steps p.tables e below (s₁.setTop (mkF m 20 #[.val (.long (Int64.ofNat W)), .second, .val (.int (Int32.ofNat pp)), .val (.int (Int32.ofNat i)), .val (.ref pa)] [(.int (44 : Int32))])) _
    exact retN X0 hx (t := .char) Bd.returns (by simp) (hb hby dC_20) hr
  · show QC W pp i h0 n0 _ s₁.heap _
    rw [e0]
    exact ⟨congrArg (fun z => some (Value.int z)) hd, N0, rfl⟩
set_option maxRecDepth 65536 in
set_option maxHeartbeats 40000000 in
theorem rmC_c (l : Launch) (Z : State) (a0 : Array Value) (hw : ∀ d ∈ tables_1, d.before a0 Z = true) (ws : List Jvm.Cond) (W pp i : Nat) (pa : Addr) (kp : ClassId) (h0 : Heap) (n0 : Nat) (hW : W < 9223372036854775808) (hp : pp ≤ 18) (hi : i ≤ 18) (VP : Arv Z h0 pa kp .long (19 : Int32) own_PW (.long (0 : Int64))) (q : pp < i) :
    MetFree l (⟨"com/example/allotrope/allotrope/workload/FieldsWholePinLaw", "ch", "(JII[J)C"⟩ : MethodName) (head1 (Jvm.Cond.code (⟨"com/example/allotrope/allotrope/workload/FieldsWholePinLaw", "ch", "(JII[J)C"⟩ : MethodName) method_4_code 5 (some .char) :: ws) ({ frames := 1, cells := 0, slots := 0, locals := 15 } : Room)) (fun as_ U => as_ = #[(.long (Int64.ofNat W)), (.int (Int32.ofNat pp)), (.int (Int32.ofNat i)), (.ref pa)] ∧ Z.Warmed39 U.vm ∧ U.heap = h0) (fun _ _ _ _ _ => True) (fun _ U o U' => ∃ v L, o = .returned v ∧ QC W pp i h0 n0 v U'.heap L ∧ FrameEnd U o U' L ({ frames := 1, cells := 0, slots := 0, locals := 15 } : Room).cells ({ frames := 1, cells := 0, slots := 0, locals := 15 } : Room).slots) := by
  refine MetFree.of_bodySF (plainFor_of_name pnL) hisR ?_
  intro p e s m args below meth c s₁ Bd hml0 hP hK
  obtain ⟨rfl, hZ, hh⟩ := hP
  have hx := Bd.exec
  have hby := Bd.bytes
  have hml : c.maxLocals = 5 := hml0
  have hown : s.vm.findClass "com/example/allotrope/allotrope/workload/FieldsWholePinLaw" = some m.cls := findClass_of_methodNamed Bd.named
  have hnm := (name_of_methodNamed Bd.named Bd.method).1
  have X0 : Stand p l e ({ frames := 1, cells := 0, slots := 0, locals := 15 } : Room) s m #[(.long (Int64.ofNat W)), (.int (Int32.ofNat pp)), (.int (Int32.ofNat i)), (.ref pa)] below meth c s₁ [] 0 0 := Stand.of_body Bd
  have e0 : s₁.heap = h0 := by rw [← hh, Bd.state]; rfl
  have N0 := Fr.nil n0
  have go0 : ∀ tg_, Steps p.tables e below (s₁.setTop (mkF m 0 #[.val (.long (Int64.ofNat W)), .second, .val (.int (Int32.ofNat pp)), .val (.int (Int32.ofNat i)), .val (.ref pa)] [])) tg_ → Steps p.tables e below (s₁.setTop (entryFrame m #[(.long (Int64.ofNat W)), (.int (Int32.ofNat pp)), (.int (Int32.ofNat i)), (.ref pa)] 5)) tg_ := fun tg_ k => castTop (efC m (Int64.ofNat W) (Int32.ofNat pp) (Int32.ofNat i) pa) k
  obtain ⟨_, _, ⟨T101, L101, kk101, nn101⟩, -, X101, ⟨Lc101, hQ101, l101, y101, z101⟩, st101⟩ := Jvm.LawKit.callS X0 hx (y := (⟨"com/example/allotrope/allotrope/workload/FieldsWholePinLaw", "digit", "(JI[J)C"⟩ : MethodName)) hown (mvT hZ (hw _ (List.mem_of_getElem? (i := 26) rfl))) (mvT hZ (hw _ (List.mem_of_getElem? (i := 27) rfl))) (mvT hZ (hw _ (List.mem_of_getElem? (i := 24) rfl))) (mvT hZ (hw _ (List.mem_of_getElem? (i := 28) rfl))) (by decide) (backOf (W := 0) (rmD l Z a0 hw [] W (i - 1) ((Int32.ofNat i) - (1 : Int32)) pa kp h0 n0 hW (by omega) (own_sub32 (b := 1) (by omega) (by omega)) VP) hZ (hw _ (List.mem_of_getElem? (i := 28) rfl)) (hw _ (List.mem_of_getElem? (i := 24) rfl)) (by decide) (by decide)) (g := (mkF m 27 #[.val (.long (Int64.ofNat W)), .second, .val (.int (Int32.ofNat pp)), .val (.int (Int32.ofNat i)), .val (.ref pa)] [(.ref pa), (.int ((Int32.ofNat i) - (1 : Int32))), (.long (Int64.ofNat W))])) rfl (by rw [hml]; rfl) (argsL := [(.long (Int64.ofNat W)), (.int ((Int32.ofNat i) - (1 : Int32))), (.ref pa)]) (rest := []) (lenOf pd__JI_J_C rfl) rfl (by show 2 * 0 + _ ≤ _; exact Nat.le_of_eq rfl) (hb hby dC_27) (fun _ _ => ⟨rfl, e0, Nat.le_of_ble_eq_true rfl, Nat.le_of_ble_eq_true rfl⟩)
  dsimp only [Pt.U, Pt.locs, Pt.cells, Pt.slots] at X101 l101 y101 z101 st101 hQ101
  subst l101 y101 z101
  obtain ⟨rfl, Nq101, e101⟩ := hQ101
  have N101 := Fr.app N0 Nq101
  have hd : nar .char (Int32.ofNat (48 + own_dg W (i - 1))) = Int32.ofNat (own_ch W pp i) := by
    have q2 := own_dg_lt W (i - 1)
    rw [own_narc (by omega)]
    exact congrArg Int32.ofNat (by unfold own_ch; rw [if_neg (by omega), if_neg (by omega)])
  obtain ⟨fs, hr, hrun, hended, hW, hsame⟩ := X101.leave (v := some (.int (nar .char (Int32.ofNat (48 + own_dg W (i - 1)))))) (fun h => by rw [Bd.returns] at h; cases h)
  refine ⟨_, _, go0 _ ?_, hrun, hended, _, _, rfl, ?_, ⟨_, rfl⟩, hW, hsame.mono (by decide) (by decide)⟩
  · show Steps p.tables e below (s₁.setTop (mkF m 0 #[.val (.long (Int64.ofNat W)), .second, .val (.int (Int32.ofNat pp)), .val (.int (Int32.ofNat i)), .val (.ref pa)] [])) _
    refine XS.iloadN X0.here hx rfl (hb hby dC_0) rfl ?_
    show Steps p.tables e below (s₁.setTop (mkF m 1 #[.val (.long (Int64.ofNat W)), .second, .val (.int (Int32.ofNat pp)), .val (.int (Int32.ofNat i)), .val (.ref pa)] [(.int (Int32.ofNat i))])) _
    refine XS.iloadN X0.here hx rfl (hb hby dC_1) rfl ?_
    show Steps p.tables e below (s₁.setTop (mkF m 2 #[.val (.long (Int64.ofNat W)), .second, .val (.int (Int32.ofNat pp)), .val (.int (Int32.ofNat i)), .val (.ref pa)] [(.int (Int32.ofNat pp)), (.int (Int32.ofNat i))])) _
    refine XS.icmpYes X0.here hx rfl (pc0 := 2) (pc' := 13) rfl (hb hby dC_2) rfl (flt (own_nlt32 (by omega) (by omega) : ¬ ((Int32.ofNat i) < (Int32.ofNat pp)))).2.1 (by decide) (by decide) ?_
    show Steps p.tables e below (s₁.setTop (mkF m 13 #[.val (.long (Int64.ofNat W)), .second, .val (.int (Int32.ofNat pp)), .val (.int (Int32.ofNat i)), .val (.ref pa)] [])) _
    refine XS.iloadN X0.here hx rfl (hb hby dC_13) rfl ?_
    show Steps p.tables e below (s₁.setTop (mkF m 14 #[.val (.long (Int64.ofNat W)), .second, .val (.int (Int32.ofNat pp)), .val (.int (Int32.ofNat i)), .val (.ref pa)] [(.int (Int32.ofNat i))])) _
    refine XS.iloadN X0.here hx rfl (hb hby dC_14) rfl ?_
    show Steps p.tables e below (s₁.setTop (mkF m 15 #[.val (.long (Int64.ofNat W)), .second, .val (.int (Int32.ofNat pp)), .val (.int (Int32.ofNat i)), .val (.ref pa)] [(.int (Int32.ofNat pp)), (.int (Int32.ofNat i))])) _
    refine XS.icmpYes X0.here hx rfl (pc0 := 15) (pc' := 21) rfl (hb hby dC_15) rfl (feq (fun e => by have := own_eq32 (by omega) (by omega) e; omega : ¬ ((Int32.ofNat i) = (Int32.ofNat pp)))).2 (by decide) (by decide) ?_
    show Steps p.tables e below (s₁.setTop (mkF m 21 #[.val (.long (Int64.ofNat W)), .second, .val (.int (Int32.ofNat pp)), .val (.int (Int32.ofNat i)), .val (.ref pa)] [])) _
    refine XS.lloadN X0.here hx rfl (hb hby dC_21) rfl ?_
    show Steps p.tables e below (s₁.setTop (mkF m 22 #[.val (.long (Int64.ofNat W)), .second, .val (.int (Int32.ofNat pp)), .val (.int (Int32.ofNat i)), .val (.ref pa)] [(.long (Int64.ofNat W))])) _
    refine XS.iloadN X0.here hx rfl (hb hby dC_22) rfl ?_
    show Steps p.tables e below (s₁.setTop (mkF m 23 #[.val (.long (Int64.ofNat W)), .second, .val (.int (Int32.ofNat pp)), .val (.int (Int32.ofNat i)), .val (.ref pa)] [(.int (Int32.ofNat i)), (.long (Int64.ofNat W))])) _
    refine XS.iconst X0.here hx rfl (hb hby dC_23) ?_
    show Steps p.tables e below (s₁.setTop (mkF m 24 #[.val (.long (Int64.ofNat W)), .second, .val (.int (Int32.ofNat pp)), .val (.int (Int32.ofNat i)), .val (.ref pa)] [(.int (1 : Int32)), (.int (Int32.ofNat i)), (.long (Int64.ofNat W))])) _
    refine XS.isub X0.here hx rfl (hb hby dC_24) rfl ?_
    show Steps p.tables e below (s₁.setTop (mkF m 25 #[.val (.long (Int64.ofNat W)), .second, .val (.int (Int32.ofNat pp)), .val (.int (Int32.ofNat i)), .val (.ref pa)] [(.int ((Int32.ofNat i) - (1 : Int32))), (.long (Int64.ofNat W))])) _
    refine XS.aload X0.here hx rfl (hb hby dC_25) rfl rfl ?_
    show Steps p.tables e below (s₁.setTop (mkF m 27 #[.val (.long (Int64.ofNat W)), .second, .val (.int (Int32.ofNat pp)), .val (.int (Int32.ofNat i)), .val (.ref pa)] [(.ref pa), (.int ((Int32.ofNat i) - (1 : Int32))), (.long (Int64.ofNat W))])) _
    refine st101 _ ?_
    show Steps p.tables e below (T101.setTop (mkF m 30 #[.val (.long (Int64.ofNat W)), .second, .val (.int (Int32.ofNat pp)), .val (.int (Int32.ofNat i)), .val (.ref pa)] [(.int (Int32.ofNat (48 + own_dg W (i - 1))))])) _
    exact retN X101 hx (t := .char) Bd.returns (by simp) (hb hby dC_30) hr
  · show QC W pp i h0 n0 _ T101.heap _
    rw [e101]
    exact ⟨congrArg (fun z => some (Value.int z)) hd, N101, rfl⟩
theorem rmC (l : Launch) (Z : State) (a0 : Array Value) (hw : ∀ d ∈ tables_1, d.before a0 Z = true) (ws : List Jvm.Cond) (W pp i : Nat) (pa : Addr) (kp : ClassId) (h0 : Heap) (n0 : Nat) (hW : W < 9223372036854775808) (hp : pp ≤ 18) (hi : i ≤ 18) (VP : Arv Z h0 pa kp .long (19 : Int32) own_PW (.long (0 : Int64))) :
    MetFree l (⟨"com/example/allotrope/allotrope/workload/FieldsWholePinLaw", "ch", "(JII[J)C"⟩ : MethodName) (head1 (Jvm.Cond.code (⟨"com/example/allotrope/allotrope/workload/FieldsWholePinLaw", "ch", "(JII[J)C"⟩ : MethodName) method_4_code 5 (some .char) :: ws) ({ frames := 1, cells := 0, slots := 0, locals := 15 } : Room)) (fun as_ U => as_ = #[(.long (Int64.ofNat W)), (.int (Int32.ofNat pp)), (.int (Int32.ofNat i)), (.ref pa)] ∧ Z.Warmed39 U.vm ∧ U.heap = h0) (fun _ _ _ _ _ => True) (fun _ U o U' => ∃ v L, o = .returned v ∧ QC W pp i h0 n0 v U'.heap L ∧ FrameEnd U o U' L ({ frames := 1, cells := 0, slots := 0, locals := 15 } : Room).cells ({ frames := 1, cells := 0, slots := 0, locals := 15 } : Room).slots) := by
  rcases Nat.lt_trichotomy i pp with q | q | q
  · exact rmC_a l Z a0 hw ws W pp i pa kp h0 n0 hW hp hi VP q
  · exact rmC_b l Z a0 hw ws W pp i pa kp h0 n0 hW hp hi VP q
  · exact rmC_c l Z a0 hw ws W pp i pa kp h0 n0 hW hp hi VP q
def own_FS (Z : State) (h : Heap) (a ln st en : Addr) (kl ks ke : ClassId) (cs : List Value) (len cnt : Int32) (ss es : List Value) : Prop := Exa Z h a "com/example/allotrope/allotrope/workload/Fields" ∧ Fld Z h a "com/example/allotrope/allotrope/workload/Fields" "line" "[C" (.ref ln) ∧ Fld Z h a "com/example/allotrope/allotrope/workload/Fields" "length" "I" (.int len) ∧ Fld Z h a "com/example/allotrope/allotrope/workload/Fields" "count" "I" (.int cnt) ∧ Fld Z h a "com/example/allotrope/allotrope/workload/Fields" "starts" "[I" (.ref st) ∧ Fld Z h a "com/example/allotrope/allotrope/workload/Fields" "ends" "[I" (.ref en) ∧ Arv Z h ln kl .char (128 : Int32) cs (.int (0 : Int32)) ∧ Arv Z h st ks .int (32 : Int32) ss (.int (0 : Int32)) ∧ Arv Z h en ke .int (32 : Int32) es (.int (0 : Int32))
def own_Dist (a ln st en : Addr) : Prop := a ≠ ln ∧ a ≠ st ∧ a ≠ en ∧ ln ≠ st ∧ ln ≠ en ∧ st ≠ en
theorem dI_0 : decode prog_224_method_1_code 0 = .ok (.aload_n 0, 1) := by decide +kernel
theorem dI_1 : decode prog_224_method_1_code 1 = .ok (.invokespecial 3, 3) := by decide +kernel
theorem dI_4 : decode prog_224_method_1_code 4 = .ok (.aload_n 0, 1) := by decide +kernel
theorem dI_5 : decode prog_224_method_1_code 5 = .ok (.sipush 128, 3) := by decide +kernel
theorem dI_8 : decode prog_224_method_1_code 8 = .ok (.newarray .char, 2) := by decide +kernel
theorem dI_10 : decode prog_224_method_1_code 10 = .ok (.putfield 9, 3) := by decide +kernel
theorem dI_13 : decode prog_224_method_1_code 13 = .ok (.aload_n 0, 1) := by decide +kernel
theorem dI_14 : decode prog_224_method_1_code 14 = .ok (.bipush 32, 2) := by decide +kernel
theorem dI_16 : decode prog_224_method_1_code 16 = .ok (.newarray .int, 2) := by decide +kernel
theorem dI_18 : decode prog_224_method_1_code 18 = .ok (.putfield 13, 3) := by decide +kernel
theorem dI_21 : decode prog_224_method_1_code 21 = .ok (.aload_n 0, 1) := by decide +kernel
theorem dI_22 : decode prog_224_method_1_code 22 = .ok (.bipush 32, 2) := by decide +kernel
theorem dI_24 : decode prog_224_method_1_code 24 = .ok (.newarray .int, 2) := by decide +kernel
theorem dI_26 : decode prog_224_method_1_code 26 = .ok (.putfield 17, 3) := by decide +kernel
theorem dI_29 : decode prog_224_method_1_code 29 = .ok (.return_, 1) := by decide +kernel
theorem pnF : plainName "com/example/allotrope/allotrope/workload/Fields" = true := by first | (simp [plainName, overriddenIn]; done) | decide +kernel
theorem efI (m : MethodId) (x0 : Addr) : entryFrame m #[(.ref x0)] 1 = mkF m 0 #[.val (.ref x0)] [] := by first | (simp [entryFrame, mkF, argsToLocals, Value.category]; done) | rfl
def QI (Z : State) (a1 : Addr) (h0 : Heap) (n0 : Nat) (v : Option Value) (h : Heap) (L : List Loc) : Prop := ∃ (ln st en : Addr) (kl ks ke : ClassId), v = none ∧ Fr n0 L ∧ Keep h0 h [a1] ∧ own_FS Z h a1 ln st en kl ks ke [] 0 0 [] [] ∧ own_Dist a1 ln st en ∧ n0 ≤ ln ∧ n0 ≤ st ∧ n0 ≤ en ∧ h0.size ≤ ln ∧ h0.size ≤ st ∧ h0.size ≤ en
set_option maxRecDepth 65536 in
set_option maxHeartbeats 40000000 in
theorem rmI (l : Launch) (Z : State) (a0 : Array Value) (hw : ∀ d ∈ tables_1, d.before a0 Z = true) (ws : List Jvm.Cond) (a1 : Addr) (u1 u2 u3 : Value) (h0 : Heap) (n0 : Nat) (Z0 : n0 ≤ h0.size) (g_a1 : n0 ≤ a1) (E_a1 : Exa Z h0 a1 "com/example/allotrope/allotrope/workload/Fields") (F_line_a1 : Fld Z h0 a1 "com/example/allotrope/allotrope/workload/Fields" "line" "[C" u1) (F_length_a1 : Fld Z h0 a1 "com/example/allotrope/allotrope/workload/Fields" "length" "I" (.int (0 : Int32))) (F_count_a1 : Fld Z h0 a1 "com/example/allotrope/allotrope/workload/Fields" "count" "I" (.int (0 : Int32))) (F_starts_a1 : Fld Z h0 a1 "com/example/allotrope/allotrope/workload/Fields" "starts" "[I" u2) (F_ends_a1 : Fld Z h0 a1 "com/example/allotrope/allotrope/workload/Fields" "ends" "[I" u3) :
    MetFree l (⟨"com/example/allotrope/allotrope/workload/Fields", "<init>", "()V"⟩ : MethodName) (head1 (Jvm.Cond.code (⟨"com/example/allotrope/allotrope/workload/Fields", "<init>", "()V"⟩ : MethodName) prog_224_method_1_code 1 none :: ws) ({ frames := 1, cells := 3, slots := 192, locals := 12 } : Room)) (fun as_ U => as_ = #[(.ref a1)] ∧ Z.Warmed39 U.vm ∧ U.heap = h0) (fun _ _ _ _ _ => True) (fun _ U o U' => ∃ v L, o = .returned v ∧ QI Z a1 h0 n0 v U'.heap L ∧ FrameEnd U o U' L ({ frames := 1, cells := 3, slots := 192, locals := 12 } : Room).cells ({ frames := 1, cells := 3, slots := 192, locals := 12 } : Room).slots) := by
  refine MetFree.of_bodySF (plainFor_of_name pnF) hisR ?_
  intro p e s m args below meth c s₁ Bd hml0 hP hK
  obtain ⟨rfl, hZ, hh⟩ := hP
  have hx := Bd.exec
  have hby := Bd.bytes
  have hml : c.maxLocals = 1 := hml0
  have hown : s.vm.findClass "com/example/allotrope/allotrope/workload/Fields" = some m.cls := findClass_of_methodNamed Bd.named
  have hnm := (name_of_methodNamed Bd.named Bd.method).1
  have X0 : Stand p l e ({ frames := 1, cells := 3, slots := 192, locals := 12 } : Room) s m #[(.ref a1)] below meth c s₁ [] 0 0 := Stand.of_body Bd
  have e0 : s₁.heap = h0 := by rw [← hh, Bd.state]; rfl
  have N0 := Fr.nil n0
  have go0 : ∀ tg_, Steps p.tables e below (s₁.setTop (mkF m 0 #[.val (.ref a1)] [])) tg_ → Steps p.tables e below (s₁.setTop (entryFrame m #[(.ref a1)] 1)) tg_ := fun tg_ k => castTop (efI m a1) k
  have KH0 : Keep h0 h0 [a1] := Keep.refl h0 [a1]
  have lt_a1 : a1 < h0.size := E_a1.lt
  obtain ⟨T101, X101, e101, st101⟩ := initO X0 hx hZ hown (hw _ (List.mem_of_getElem? (i := 35) rfl)) (hw _ (List.mem_of_getElem? (i := 36) rfl)) (hw _ (List.mem_of_getElem? (i := 37) rfl)) e0 (g := (mkF m 1 #[.val (.ref a1)] [(.ref a1)])) rfl (by rw [hml]; rfl) rfl (hb hby dI_1) (by decide) (W := 0) (by show 2 * 0 + _ ≤ _; exact Nat.le_of_eq rfl) (by decide)
  obtain ⟨T102, h102, k102, X102, e102, E102, A102, st102⟩ := newP X101 hx hZ (hw _ (List.mem_of_getElem? (i := 21) rfl)) e101 (g := (mkF m 8 #[.val (.ref a1)] [(.int (128 : Int32)), (.ref a1)])) rfl (hb hby dI_8) rfl (by decide) (cap := 128) (by decide) (by decide) (by decide) (by decide)
  obtain ⟨ln, g102⟩ : ∃ z, z = h0.size := ⟨_, rfl⟩
  rw [← g102] at A102 st102
  have sz_ln : h0.size ≤ ln := Nat.le_trans KH0.1 (Nat.le_of_eq g102.symm)
  have g_ln : n0 ≤ ln := Nat.le_trans Z0 (Nat.le_of_eq g102.symm)
  have ne_a1_ln : a1 ≠ ln := (Nat.ne_of_lt (Nat.lt_of_lt_of_le lt_a1 (Nat.le_of_eq g102.symm)))
  have V_ln : Arv Z h102 ln k102 .char (128 : Int32) [] (.int (0 : Int32)) := Arv.new A102 (by decide)
  have K102 : Keep h0 h102 [] := (Keep.refl _ []).ext E102
  have KH103 : Keep h0 h102 [a1] := KH0.trans K102 all0
  have lt_ln : ln < h102.size := V_ln.lt
  have F_line_a1_105 := (F_line_a1.keep K102 nin0)
  have E_a1_106 := (E_a1.keep K102)
  obtain ⟨T104, h104, X104, e104, W104, st104⟩ := putF X102 hx hZ hown (host := "") (Or.inl (hw _ (List.mem_of_getElem? (i := 38) rfl))) Via.refl e102 F_line_a1_105 E_a1_106 (Or.inl (hw _ (List.mem_of_getElem? (i := 39) rfl))) (hw _ (List.mem_of_getElem? (i := 30) rfl)) (ty := (.array .char)) (by decide) rfl rfl (g := (mkF m 10 #[.val (.ref a1)] [(.ref ln), (.ref a1)])) rfl rfl (hb hby dI_10)
  have Fw104 := F_line_a1_105.same W104
  have K104 : Keep h102 h104 [a1] := Keep.of_wr W104
  have KH107 : Keep h0 h104 [a1] := KH103.trans K104 (allS (Or.inl (List.mem_of_getElem? (i := 0) rfl)) all0)
  have N104 := Fr.snoc X104 N0 g_a1
  obtain ⟨T108, h108, k108, X108, e108, E108, A108, st108⟩ := newP X104 hx hZ (hw _ (List.mem_of_getElem? (i := 40) rfl)) e104 (g := (mkF m 16 #[.val (.ref a1)] [(.int (32 : Int32)), (.ref a1)])) rfl (hb hby dI_16) rfl (by decide) (cap := 32) (by decide) (by decide) (by decide) (by decide)
  obtain ⟨st, g108⟩ : ∃ z, z = h104.size := ⟨_, rfl⟩
  rw [← g108] at A108 st108
  have Z_109 := (Nat.le_trans (Nat.le_trans Z0 K102.1) K104.1)
  have sz_st : h0.size ≤ st := Nat.le_trans KH107.1 (Nat.le_of_eq g108.symm)
  have g_st : n0 ≤ st := Nat.le_trans Z_109 (Nat.le_of_eq g108.symm)
  have lt_a1_110 := (Nat.lt_of_lt_of_le (Nat.lt_of_lt_of_le lt_a1 K102.1) K104.1)
  have ne_a1_st : a1 ≠ st := (Nat.ne_of_lt (Nat.lt_of_lt_of_le lt_a1_110 (Nat.le_of_eq g108.symm)))
  have lt_ln_111 := (Nat.lt_of_lt_of_le lt_ln K104.1)
  have ne_ln_st : ln ≠ st := (Nat.ne_of_lt (Nat.lt_of_lt_of_le lt_ln_111 (Nat.le_of_eq g108.symm)))
  have V_st : Arv Z h108 st k108 .int (32 : Int32) [] (.int (0 : Int32)) := Arv.new A108 (by decide)
  have K108 : Keep h104 h108 [] := (Keep.refl _ []).ext E108
  have KH112 : Keep h0 h108 [a1] := KH107.trans K108 all0
  have lt_st : st < h108.size := V_st.lt
  have F_starts_a1_114 := (((F_starts_a1.keep K102 nin0).other W104 (Or.inr (slot_ne (Or.inl (hw _ (List.mem_of_getElem? (i := 42) rfl))) (Or.inl (hw _ (List.mem_of_getElem? (i := 39) rfl))) (by decide) (t := (.array .int)) (t' := (.array .char)) (by decide) (by decide)))).keep K108 nin0)
  have E_a1_115 := ((E_a1_106.keep K104).keep K108)
  obtain ⟨T113, h113, X113, e113, W113, st113⟩ := putF X108 hx hZ hown (host := "") (Or.inl (hw _ (List.mem_of_getElem? (i := 41) rfl))) Via.refl e108 F_starts_a1_114 E_a1_115 (Or.inl (hw _ (List.mem_of_getElem? (i := 42) rfl))) (hw _ (List.mem_of_getElem? (i := 30) rfl)) (ty := (.array .int)) (by decide) rfl rfl (g := (mkF m 18 #[.val (.ref a1)] [(.ref st), (.ref a1)])) rfl rfl (hb hby dI_18)
  have Fw113 := F_starts_a1_114.same W113
  have K113 : Keep h108 h113 [a1] := Keep.of_wr W113
  have KH116 : Keep h0 h113 [a1] := KH112.trans K113 (allS (Or.inl (List.mem_of_getElem? (i := 0) rfl)) all0)
  have N113 := Fr.snoc X113 N104 g_a1
  obtain ⟨T117, h117, k117, X117, e117, E117, A117, st117⟩ := newP X113 hx hZ (hw _ (List.mem_of_getElem? (i := 40) rfl)) e113 (g := (mkF m 24 #[.val (.ref a1)] [(.int (32 : Int32)), (.ref a1)])) rfl (hb hby dI_24) rfl (by decide) (cap := 32) (by decide) (by decide) (by decide) (by decide)
  obtain ⟨en, g117⟩ : ∃ z, z = h113.size := ⟨_, rfl⟩
  rw [← g117] at A117 st117
  have Z_118 := (Nat.le_trans (Nat.le_trans Z_109 K108.1) K113.1)
  have sz_en : h0.size ≤ en := Nat.le_trans KH116.1 (Nat.le_of_eq g117.symm)
  have g_en : n0 ≤ en := Nat.le_trans Z_118 (Nat.le_of_eq g117.symm)
  have lt_a1_119 := (Nat.lt_of_lt_of_le (Nat.lt_of_lt_of_le lt_a1_110 K108.1) K113.1)
  have ne_a1_en : a1 ≠ en := (Nat.ne_of_lt (Nat.lt_of_lt_of_le lt_a1_119 (Nat.le_of_eq g117.symm)))
  have lt_ln_120 := (Nat.lt_of_lt_of_le (Nat.lt_of_lt_of_le lt_ln_111 K108.1) K113.1)
  have ne_ln_en : ln ≠ en := (Nat.ne_of_lt (Nat.lt_of_lt_of_le lt_ln_120 (Nat.le_of_eq g117.symm)))
  have lt_st_121 := (Nat.lt_of_lt_of_le lt_st K113.1)
  have ne_st_en : st ≠ en := (Nat.ne_of_lt (Nat.lt_of_lt_of_le lt_st_121 (Nat.le_of_eq g117.symm)))
  have V_en : Arv Z h117 en k117 .int (32 : Int32) [] (.int (0 : Int32)) := Arv.new A117 (by decide)
  have K117 : Keep h113 h117 [] := (Keep.refl _ []).ext E117
  have KH122 : Keep h0 h117 [a1] := KH116.trans K117 all0
  have lt_en : en < h117.size := V_en.lt
  have F_ends_a1_124 := (((((F_ends_a1.keep K102 nin0).other W104 (Or.inr (slot_ne (Or.inl (hw _ (List.mem_of_getElem? (i := 44) rfl))) (Or.inl (hw _ (List.mem_of_getElem? (i := 39) rfl))) (by decide) (t := (.array .int)) (t' := (.array .char)) (by decide) (by decide)))).keep K108 nin0).other W113 (Or.inr (slot_ne (Or.inl (hw _ (List.mem_of_getElem? (i := 44) rfl))) (Or.inl (hw _ (List.mem_of_getElem? (i := 42) rfl))) (by decide) (t := (.array .int)) (t' := (.array .int)) (by decide) (by decide)))).keep K117 nin0)
  have E_a1_125 := ((E_a1_115.keep K113).keep K117)
  obtain ⟨T123, h123, X123, e123, W123, st123⟩ := putF X117 hx hZ hown (host := "") (Or.inl (hw _ (List.mem_of_getElem? (i := 43) rfl))) Via.refl e117 F_ends_a1_124 E_a1_125 (Or.inl (hw _ (List.mem_of_getElem? (i := 44) rfl))) (hw _ (List.mem_of_getElem? (i := 30) rfl)) (ty := (.array .int)) (by decide) rfl rfl (g := (mkF m 26 #[.val (.ref a1)] [(.ref en), (.ref a1)])) rfl rfl (hb hby dI_26)
  have Fw123 := F_ends_a1_124.same W123
  have K123 : Keep h117 h123 [a1] := Keep.of_wr W123
  have KH126 : Keep h0 h123 [a1] := KH122.trans K123 (allS (Or.inl (List.mem_of_getElem? (i := 0) rfl)) all0)
  have N123 := Fr.snoc X123 N113 g_a1
  have E_a1_127 := (E_a1_125.keep K123)
  have F_line_a1_128 := ((((Fw104.keep K108 nin0).other W113 (Or.inr (slot_ne (Or.inl (hw _ (List.mem_of_getElem? (i := 39) rfl))) (Or.inl (hw _ (List.mem_of_getElem? (i := 42) rfl))) (by decide) (t := (.array .char)) (t' := (.array .int)) (by decide) (by decide)))).keep K117 nin0).other W123 (Or.inr (slot_ne (Or.inl (hw _ (List.mem_of_getElem? (i := 39) rfl))) (Or.inl (hw _ (List.mem_of_getElem? (i := 44) rfl))) (by decide) (t := (.array .char)) (t' := (.array .int)) (by decide) (by decide))))
  have F_length_a1_129 := ((((((F_length_a1.keep K102 nin0).other W104 (Or.inr (slot_ne (Or.inl (hw _ (List.mem_of_getElem? (i := 92) rfl))) (Or.inl (hw _ (List.mem_of_getElem? (i := 39) rfl))) (by decide) (t := .int) (t' := (.array .char)) (by decide) (by decide)))).keep K108 nin0).other W113 (Or.inr (slot_ne (Or.inl (hw _ (List.mem_of_getElem? (i := 92) rfl))) (Or.inl (hw _ (List.mem_of_getElem? (i := 42) rfl))) (by decide) (t := .int) (t' := (.array .int)) (by decide) (by decide)))).keep K117 nin0).other W123 (Or.inr (slot_ne (Or.inl (hw _ (List.mem_of_getElem? (i := 92) rfl))) (Or.inl (hw _ (List.mem_of_getElem? (i := 44) rfl))) (by decide) (t := .int) (t' := (.array .int)) (by decide) (by decide))))
  have F_count_a1_130 := ((((((F_count_a1.keep K102 nin0).other W104 (Or.inr (slot_ne (Or.inl (hw _ (List.mem_of_getElem? (i := 126) rfl))) (Or.inl (hw _ (List.mem_of_getElem? (i := 39) rfl))) (by decide) (t := .int) (t' := (.array .char)) (by decide) (by decide)))).keep K108 nin0).other W113 (Or.inr (slot_ne (Or.inl (hw _ (List.mem_of_getElem? (i := 126) rfl))) (Or.inl (hw _ (List.mem_of_getElem? (i := 42) rfl))) (by decide) (t := .int) (t' := (.array .int)) (by decide) (by decide)))).keep K117 nin0).other W123 (Or.inr (slot_ne (Or.inl (hw _ (List.mem_of_getElem? (i := 126) rfl))) (Or.inl (hw _ (List.mem_of_getElem? (i := 44) rfl))) (by decide) (t := .int) (t' := (.array .int)) (by decide) (by decide))))
  have F_starts_a1_131 := ((Fw113.keep K117 nin0).other W123 (Or.inr (slot_ne (Or.inl (hw _ (List.mem_of_getElem? (i := 42) rfl))) (Or.inl (hw _ (List.mem_of_getElem? (i := 44) rfl))) (by decide) (t := (.array .int)) (t' := (.array .int)) (by decide) (by decide))))
  have V_ln_132 := (((((V_ln.keep K104 (ninS (Ne.symm ne_a1_ln) nin0)).keep K108 nin0).keep K113 (ninS (Ne.symm ne_a1_ln) nin0)).keep K117 nin0).keep K123 (ninS (Ne.symm ne_a1_ln) nin0))
  have V_st_133 := (((V_st.keep K113 (ninS (Ne.symm ne_a1_st) nin0)).keep K117 nin0).keep K123 (ninS (Ne.symm ne_a1_st) nin0))
  have V_en_134 := (V_en.keep K123 (ninS (Ne.symm ne_a1_en) nin0))
  obtain ⟨fs, hr, hrun, hended, hW, hsame⟩ := X123.leave (v := none) (fun _ => rfl)
  refine ⟨_, _, go0 _ ?_, hrun, hended, _, _, rfl, ?_, ⟨_, rfl⟩, hW, hsame.mono (by decide) (by decide)⟩
  · show Steps p.tables e below (s₁.setTop (mkF m 0 #[.val (.ref a1)] [])) _
    refine XS.aloadN X0.here hx rfl (hb hby dI_0) rfl rfl ?_
    show Steps p.tables e below (s₁.setTop (mkF m 1 #[.val (.ref a1)] [(.ref a1)])) _
    refine st101 _ ?_
    show Steps p.tables e below (T101.setTop (mkF m 4 #[.val (.ref a1)] [])) _
    refine XS.aloadN X101.here hx rfl (hb hby dI_4) rfl rfl ?_
    show Steps p.tables e below (T101.setTop (mkF m 5 #[.val (.ref a1)] [(.ref a1)])) _
    refine XS.sipush X101.here hx rfl (hb hby dI_5) ?_
    show Steps p.tables e below (T101.setTop (mkF m 8 #[.val (.ref a1)] [(.int (128 : Int32)), (.ref a1)])) _
    refine st102 _ ?_
    show Steps p.tables e below (T102.setTop (mkF m 10 #[.val (.ref a1)] [(.ref ln), (.ref a1)])) _
    refine st104 _ ?_
    show Steps p.tables e below (T104.setTop (mkF m 13 #[.val (.ref a1)] [])) _
    refine XS.aloadN X104.here hx rfl (hb hby dI_13) rfl rfl ?_
    show Steps p.tables e below (T104.setTop (mkF m 14 #[.val (.ref a1)] [(.ref a1)])) _
    refine XS.bipush X104.here hx rfl (hb hby dI_14) ?_
    show Steps p.tables e below (T104.setTop (mkF m 16 #[.val (.ref a1)] [(.int (32 : Int32)), (.ref a1)])) _
    refine st108 _ ?_
    show Steps p.tables e below (T108.setTop (mkF m 18 #[.val (.ref a1)] [(.ref st), (.ref a1)])) _
    refine st113 _ ?_
    show Steps p.tables e below (T113.setTop (mkF m 21 #[.val (.ref a1)] [])) _
    refine XS.aloadN X113.here hx rfl (hb hby dI_21) rfl rfl ?_
    show Steps p.tables e below (T113.setTop (mkF m 22 #[.val (.ref a1)] [(.ref a1)])) _
    refine XS.bipush X113.here hx rfl (hb hby dI_22) ?_
    show Steps p.tables e below (T113.setTop (mkF m 24 #[.val (.ref a1)] [(.int (32 : Int32)), (.ref a1)])) _
    refine st117 _ ?_
    show Steps p.tables e below (T117.setTop (mkF m 26 #[.val (.ref a1)] [(.ref en), (.ref a1)])) _
    refine st123 _ ?_
    show Steps p.tables e below (T123.setTop (mkF m 29 #[.val (.ref a1)] [])) _
    exact X123.returnOut hx Bd.returns (hb hby dI_29) hr
  · show QI Z a1 h0 n0 _ T123.heap _
    rw [e123]
    exact ⟨ln, st, en, _, _, _, rfl, N123, KH126, ⟨E_a1_127, F_line_a1_128, F_length_a1_129, F_count_a1_130, F_starts_a1_131, Fw123, V_ln_132, V_st_133, V_en_134⟩, ⟨ne_a1_ln, ne_a1_st, ne_a1_en, ne_ln_st, ne_ln_en, ne_st_en⟩, g_ln, g_st, g_en, sz_ln, sz_st, sz_en⟩
def own_cs (W pp : Nat) : List Int32 := (List.range 19).map (fun i => Int32.ofNat (own_ch W pp i))
theorem own_cs_len (W pp : Nat) : (own_cs W pp).length = 19 := by simp [own_cs]
theorem own_cs_at {W pp i : Nat} (h : i < 19) : (own_cs W pp)[i]? = some (Int32.ofNat (own_ch W pp i)) := by simp [own_cs, h]
theorem own_cs_v {W pp i : Nat} (h : i < 19) : ((own_cs W pp).map Value.int).getD i (.int (0 : Int32)) = .int (Int32.ofNat (own_ch W pp i)) := by simp [List.getD, own_cs_at h]
theorem own_cs_b {W pp i : Nat} (h : i < 19) : (((own_cs W pp).map (fun c => c.toInt8.toInt32)).map Value.int).getD i (.int (0 : Int32)) = .int ((Int32.ofNat (own_ch W pp i)).toInt8.toInt32) := by simp [List.getD, own_cs_at h]
theorem own_cs_rng {W pp : Nat} : ∀ c ∈ own_cs W pp, ¬ c < 0 ∧ ¬ (255 : Int32) < c := by
  intro c hc
  simp only [own_cs, List.mem_map, List.mem_range] at hc
  obtain ⟨i, -, rfl⟩ := hc
  have := own_ch_rng W pp i
  exact ⟨own_nn (by omega), own_nlt32 (a := 255) (by omega) (by decide)⟩
def QU (r : Option Value) (h0 : Heap) (n0 : Nat) (v : Option Value) (h : Heap) (L : List Loc) : Prop := v = r ∧ Fr n0 L ∧ h = h0
theorem pnP : plainName "jdk/internal/util/Preconditions" = true := by first | (simp [plainName, overriddenIn]; done) | decide +kernel
theorem pnST : plainName "java/lang/String" = true := by first | (simp [plainName, overriddenIn]; done) | decide +kernel
theorem pnL1 : plainName "java/lang/StringLatin1" = true := by first | (simp [plainName, overriddenIn]; done) | decide +kernel
theorem dFT_0 : decode jdk_41_method_12_code 0 = .ok (.iload_n 0, 1) := by decide +kernel
theorem dFT_1 : decode jdk_41_method_12_code 1 = .ok (.ifCond .lt 13, 3) := by decide +kernel
theorem dFT_4 : decode jdk_41_method_12_code 4 = .ok (.iload_n 0, 1) := by decide +kernel
theorem dFT_5 : decode jdk_41_method_12_code 5 = .ok (.iload_n 1, 1) := by decide +kernel
theorem dFT_6 : decode jdk_41_method_12_code 6 = .ok (.if_icmp .gt 8, 3) := by decide +kernel
theorem dFT_9 : decode jdk_41_method_12_code 9 = .ok (.iload_n 1, 1) := by decide +kernel
theorem dFT_10 : decode jdk_41_method_12_code 10 = .ok (.iload_n 2, 1) := by decide +kernel
theorem dFT_11 : decode jdk_41_method_12_code 11 = .ok (.if_icmp .le 11, 3) := by decide +kernel
theorem dFT_22 : decode jdk_41_method_12_code 22 = .ok (.iload_n 0, 1) := by decide +kernel
theorem dFT_23 : decode jdk_41_method_12_code 23 = .ok (.ireturn, 1) := by decide +kernel
theorem efFT (m : MethodId) (x0 x1 x2 : Int32) (fm : Value) (r : fm.isRef = true) : entryFrame m #[(.int x0), (.int x1), (.int x2), fm] 4 = mkF m 0 #[.val (.int x0), .val (.int x1), .val (.int x2), .val fm] [] := by
  rcases ref_cases r with rfl | ⟨a, rfl⟩ <;> first | (simp [entryFrame, mkF, argsToLocals, Value.category]; done) | rfl
set_option maxRecDepth 65536 in
set_option maxHeartbeats 40000000 in
theorem rmFT (l : Launch) (Z : State) (a0 : Array Value) (hw : ∀ d ∈ tables_1, d.before a0 Z = true) (ws : List Jvm.Cond) (fm : Value) (h0 : Heap) (n0 : Nat) (rfm : fm.isRef = true) :
    MetFree l (⟨"jdk/internal/util/Preconditions", "checkFromToIndex", "(IIILjava/util/function/BiFunction;)I"⟩ : MethodName) (head1 (Jvm.Cond.code (⟨"jdk/internal/util/Preconditions", "checkFromToIndex", "(IIILjava/util/function/BiFunction;)I"⟩ : MethodName) jdk_41_method_12_code 4 (some .int) :: ws) ({ frames := 0, cells := 0, slots := 0, locals := 0 } : Room)) (fun as_ U => as_ = #[(.int (0 : Int32)), (.int (19 : Int32)), (.int (19 : Int32)), fm] ∧ Z.Warmed39 U.vm ∧ U.heap = h0) (fun _ _ _ _ _ => True) (fun _ U o U' => ∃ v L, o = .returned v ∧ QU (some (.int (0 : Int32))) h0 n0 v U'.heap L ∧ FrameEnd U o U' L ({ frames := 0, cells := 0, slots := 0, locals := 0 } : Room).cells ({ frames := 0, cells := 0, slots := 0, locals := 0 } : Room).slots) := by
  refine MetFree.of_bodySF (plainFor_of_name pnP) hisR ?_
  intro p e s m args below meth c s₁ Bd hml0 hP hK
  obtain ⟨rfl, hZ, hh⟩ := hP
  have hx := Bd.exec
  have hby := Bd.bytes
  have hml : c.maxLocals = 4 := hml0
  have hown : s.vm.findClass "jdk/internal/util/Preconditions" = some m.cls := findClass_of_methodNamed Bd.named
  have hnm := (name_of_methodNamed Bd.named Bd.method).1
  have X0 : Stand p l e ({ frames := 0, cells := 0, slots := 0, locals := 0 } : Room) s m #[(.int (0 : Int32)), (.int (19 : Int32)), (.int (19 : Int32)), fm] below meth c s₁ [] 0 0 := Stand.of_body Bd
  have e0 : s₁.heap = h0 := by rw [← hh, Bd.state]; rfl
  have N0 := Fr.nil n0
  have go0 : ∀ tg_, Steps p.tables e below (s₁.setTop (mkF m 0 #[.val (.int (0 : Int32)), .val (.int (19 : Int32)), .val (.int (19 : Int32)), .val fm] [])) tg_ → Steps p.tables e below (s₁.setTop (entryFrame m #[(.int (0 : Int32)), (.int (19 : Int32)), (.int (19 : Int32)), fm] 4)) tg_ := fun tg_ k => castTop (efFT m (0 : Int32) (19 : Int32) (19 : Int32) fm rfm) k
  obtain ⟨fs, hr, hrun, hended, hW, hsame⟩ := X0.leave (v := some (.int (0 : Int32))) (fun h => by rw [Bd.returns] at h; cases h)
  refine ⟨_, _, go0 _ ?_, hrun, hended, _, _, rfl, ?_, ⟨_, rfl⟩, hW, hsame.mono (by decide) (by decide)⟩
  · show Steps p.tables e below (s₁.setTop (mkF m 0 #[.val (.int (0 : Int32)), .val (.int (19 : Int32)), .val (.int (19 : Int32)), .val fm] [])) _
    refine XS.iloadN X0.here hx rfl (hb hby dFT_0) rfl ?_
    show Steps p.tables e below (s₁.setTop (mkF m 1 #[.val (.int (0 : Int32)), .val (.int (19 : Int32)), .val (.int (19 : Int32)), .val fm] [(.int (0 : Int32))])) _
    refine XS.ifNo X0.here hx rfl (hb hby dFT_1) rfl ((if0 _ _).trans (flt ((by decide) : ¬ ((0 : Int32) < (0 : Int32)))).1) ?_
    show Steps p.tables e below (s₁.setTop (mkF m 4 #[.val (.int (0 : Int32)), .val (.int (19 : Int32)), .val (.int (19 : Int32)), .val fm] [])) _
    refine XS.iloadN X0.here hx rfl (hb hby dFT_4) rfl ?_
    show Steps p.tables e below (s₁.setTop (mkF m 5 #[.val (.int (0 : Int32)), .val (.int (19 : Int32)), .val (.int (19 : Int32)), .val fm] [(.int (0 : Int32))])) _
    refine XS.iloadN X0.here hx rfl (hb hby dFT_5) rfl ?_
    show Steps p.tables e below (s₁.setTop (mkF m 6 #[.val (.int (0 : Int32)), .val (.int (19 : Int32)), .val (.int (19 : Int32)), .val fm] [(.int (19 : Int32)), (.int (0 : Int32))])) _
    refine XS.icmpNo X0.here hx rfl (hb hby dFT_6) rfl (flt ((by decide) : ¬ ((19 : Int32) < (0 : Int32)))).2.2.1 ?_
    show Steps p.tables e below (s₁.setTop (mkF m 9 #[.val (.int (0 : Int32)), .val (.int (19 : Int32)), .val (.int (19 : Int32)), .val fm] [])) _
    refine XS.iloadN X0.here hx rfl (hb hby dFT_9) rfl ?_
    show Steps p.tables e below (s₁.setTop (mkF m 10 #[.val (.int (0 : Int32)), .val (.int (19 : Int32)), .val (.int (19 : Int32)), .val fm] [(.int (19 : Int32))])) _
    refine XS.iloadN X0.here hx rfl (hb hby dFT_10) rfl ?_
    show Steps p.tables e below (s₁.setTop (mkF m 11 #[.val (.int (0 : Int32)), .val (.int (19 : Int32)), .val (.int (19 : Int32)), .val fm] [(.int (19 : Int32)), (.int (19 : Int32))])) _
    refine XS.icmpYes X0.here hx rfl (pc0 := 11) (pc' := 22) rfl (hb hby dFT_11) rfl (flt ((by decide) : ¬ ((19 : Int32) < (19 : Int32)))).2.2.2 (by decide) (by decide) ?_
    show Steps p.tables e below (s₁.setTop (mkF m 22 #[.val (.int (0 : Int32)), .val (.int (19 : Int32)), .val (.int (19 : Int32)), .val fm] [])) _
    refine XS.iloadN X0.here hx rfl (hb hby dFT_22) rfl ?_
    show Steps p.tables e below (s₁.setTop (mkF m 23 #[.val (.int (0 : Int32)), .val (.int (19 : Int32)), .val (.int (19 : Int32)), .val fm] [(.int (0 : Int32))])) _
    exact retI X0 hx Bd.returns (hb hby dFT_23) hr
  · show QU (some (.int (0 : Int32))) h0 n0 _ s₁.heap _
    rw [e0]
    exact ⟨rfl, N0, rfl⟩
theorem dBE_0 : decode jdk_42_method_158_code 0 = .ok (.iload_n 0, 1) := by decide +kernel
theorem dBE_1 : decode jdk_42_method_158_code 1 = .ok (.iload_n 1, 1) := by decide +kernel
theorem dBE_2 : decode jdk_42_method_158_code 2 = .ok (.iload_n 2, 1) := by decide +kernel
theorem dBE_3 : decode jdk_42_method_158_code 3 = .ok (.getstatic 1053, 3) := by decide +kernel
theorem dBE_6 : decode jdk_42_method_158_code 6 = .ok (.invokestatic 1062, 3) := by decide +kernel
theorem dBE_9 : decode jdk_42_method_158_code 9 = .ok (.pop, 1) := by decide +kernel
theorem dBE_10 : decode jdk_42_method_158_code 10 = .ok (.return_, 1) := by decide +kernel
theorem efBE (m : MethodId) (x0 : Int32) (x1 : Int32) (x2 : Int32) : entryFrame m #[(.int x0), (.int x1), (.int x2)] 3 = mkF m 0 #[.val (.int x0), .val (.int x1), .val (.int x2)] [] := by first | (simp [entryFrame, mkF, argsToLocals, Value.category]; done) | rfl
set_option maxRecDepth 65536 in
set_option maxHeartbeats 40000000 in
theorem rmBE (l : Launch) (Z : State) (a0 : Array Value) (hw : ∀ d ∈ tables_1, d.before a0 Z = true) (ws : List Jvm.Cond) (fm : Value) (h0 : Heap) (n0 : Nat) (S4 : Sta Z h0 "jdk/internal/util/Preconditions" "SIOOBE_FORMATTER" "Ljava/util/function/BiFunction;" fm) (rfm : fm.isRef = true) :
    MetFree l (⟨"java/lang/String", "checkBoundsBeginEnd", "(III)V"⟩ : MethodName) (head1 (Jvm.Cond.code (⟨"java/lang/String", "checkBoundsBeginEnd", "(III)V"⟩ : MethodName) jdk_42_method_158_code 3 none :: ws) ({ frames := 1, cells := 0, slots := 0, locals := 15 } : Room)) (fun as_ U => as_ = #[(.int (0 : Int32)), (.int (19 : Int32)), (.int (19 : Int32))] ∧ Z.Warmed39 U.vm ∧ U.heap = h0) (fun _ _ _ _ _ => True) (fun _ U o U' => ∃ v L, o = .returned v ∧ QU (none) h0 n0 v U'.heap L ∧ FrameEnd U o U' L ({ frames := 1, cells := 0, slots := 0, locals := 15 } : Room).cells ({ frames := 1, cells := 0, slots := 0, locals := 15 } : Room).slots) := by
  refine MetFree.of_bodySF (plainFor_of_name pnST) hisR ?_
  intro p e s m args below meth c s₁ Bd hml0 hP hK
  obtain ⟨rfl, hZ, hh⟩ := hP
  have hx := Bd.exec
  have hby := Bd.bytes
  have hml : c.maxLocals = 3 := hml0
  have hown : s.vm.findClass "java/lang/String" = some m.cls := findClass_of_methodNamed Bd.named
  have hnm := (name_of_methodNamed Bd.named Bd.method).1
  have X0 : Stand p l e ({ frames := 1, cells := 0, slots := 0, locals := 15 } : Room) s m #[(.int (0 : Int32)), (.int (19 : Int32)), (.int (19 : Int32))] below meth c s₁ [] 0 0 := Stand.of_body Bd
  have e0 : s₁.heap = h0 := by rw [← hh, Bd.state]; rfl
  have N0 := Fr.nil n0
  have go0 : ∀ tg_, Steps p.tables e below (s₁.setTop (mkF m 0 #[.val (.int (0 : Int32)), .val (.int (19 : Int32)), .val (.int (19 : Int32))] [])) tg_ → Steps p.tables e below (s₁.setTop (entryFrame m #[(.int (0 : Int32)), (.int (19 : Int32)), (.int (19 : Int32))] 3)) tg_ := fun tg_ k => castTop (efBE m (0 : Int32) (19 : Int32) (19 : Int32)) k
  obtain ⟨T101, X101, e101, st101⟩ := getS2 X0 hx hZ hown (host := "") (Or.inl (hw _ (List.mem_of_getElem? (i := 102) rfl))) Via.refl e0 S4 (g := (mkF m 3 #[.val (.int (0 : Int32)), .val (.int (19 : Int32)), .val (.int (19 : Int32))] [(.int (19 : Int32)), (.int (19 : Int32)), (.int (0 : Int32))])) rfl (hb hby dBE_3)
  obtain ⟨_, _, ⟨T102, L102, kk102, nn102⟩, -, X102, ⟨Lc102, hQ102, l102, y102, z102⟩, st102⟩ := Jvm.LawKit.callS X101 hx (y := (⟨"jdk/internal/util/Preconditions", "checkFromToIndex", "(IIILjava/util/function/BiFunction;)I"⟩ : MethodName)) hown (mvT hZ (hw _ (List.mem_of_getElem? (i := 104) rfl))) (mvT hZ (hw _ (List.mem_of_getElem? (i := 105) rfl))) (mvT hZ (hw _ (List.mem_of_getElem? (i := 103) rfl))) (mvT hZ (hw _ (List.mem_of_getElem? (i := 106) rfl))) (by decide) (backOf (W := 0) (rmFT l Z a0 hw [] fm h0 n0 rfm) hZ (hw _ (List.mem_of_getElem? (i := 106) rfl)) (hw _ (List.mem_of_getElem? (i := 103) rfl)) (by decide) (by decide)) (g := (mkF m 6 #[.val (.int (0 : Int32)), .val (.int (19 : Int32)), .val (.int (19 : Int32))] [fm, (.int (19 : Int32)), (.int (19 : Int32)), (.int (0 : Int32))])) rfl (by rw [hml]; rfl) (argsL := [(.int (0 : Int32)), (.int (19 : Int32)), (.int (19 : Int32)), fm]) (rest := []) (lenOf pd__IIILjava_util_function_BiFunction__I rfl) rfl (by show 2 * 0 + _ ≤ _; exact Nat.le_of_eq rfl) (hb hby dBE_6) (fun _ _ => ⟨rfl, e101, Nat.le_of_ble_eq_true rfl, Nat.le_of_ble_eq_true rfl⟩)
  dsimp only [Pt.U, Pt.locs, Pt.cells, Pt.slots] at X102 l102 y102 z102 st102 hQ102
  subst l102 y102 z102
  obtain ⟨rfl, Nq102, e102⟩ := hQ102
  have N102 := Fr.app N0 Nq102
  obtain ⟨fs, hr, hrun, hended, hW, hsame⟩ := X102.leave (v := none) (fun _ => rfl)
  refine ⟨_, _, go0 _ ?_, hrun, hended, _, _, rfl, ?_, ⟨_, rfl⟩, hW, hsame.mono (by decide) (by decide)⟩
  · show Steps p.tables e below (s₁.setTop (mkF m 0 #[.val (.int (0 : Int32)), .val (.int (19 : Int32)), .val (.int (19 : Int32))] [])) _
    refine XS.iloadN X0.here hx rfl (hb hby dBE_0) rfl ?_
    show Steps p.tables e below (s₁.setTop (mkF m 1 #[.val (.int (0 : Int32)), .val (.int (19 : Int32)), .val (.int (19 : Int32))] [(.int (0 : Int32))])) _
    refine XS.iloadN X0.here hx rfl (hb hby dBE_1) rfl ?_
    show Steps p.tables e below (s₁.setTop (mkF m 2 #[.val (.int (0 : Int32)), .val (.int (19 : Int32)), .val (.int (19 : Int32))] [(.int (19 : Int32)), (.int (0 : Int32))])) _
    refine XS.iloadN X0.here hx rfl (hb hby dBE_2) rfl ?_
    show Steps p.tables e below (s₁.setTop (mkF m 3 #[.val (.int (0 : Int32)), .val (.int (19 : Int32)), .val (.int (19 : Int32))] [(.int (19 : Int32)), (.int (19 : Int32)), (.int (0 : Int32))])) _
    refine st101 _ ?_
    show Steps p.tables e below (T101.setTop (mkF m 6 #[.val (.int (0 : Int32)), .val (.int (19 : Int32)), .val (.int (19 : Int32))] [fm, (.int (19 : Int32)), (.int (19 : Int32)), (.int (0 : Int32))])) _
    refine st102 _ ?_
    show Steps p.tables e below (T102.setTop (mkF m 9 #[.val (.int (0 : Int32)), .val (.int (19 : Int32)), .val (.int (19 : Int32))] [(.int (0 : Int32))])) _
    refine XS.pop X102.here hx rfl (hb hby dBE_9) rfl rfl ?_
    show Steps p.tables e below (T102.setTop (mkF m 10 #[.val (.int (0 : Int32)), .val (.int (19 : Int32)), .val (.int (19 : Int32))] [])) _
    exact X102.returnOut hx Bd.returns (hb hby dBE_10) hr
  · show QU (none) h0 n0 _ T102.heap _
    rw [e102]
    exact ⟨rfl, N102, rfl⟩
theorem dFS_0 : decode jdk_41_method_13_code 0 = .ok (.iload_n 2, 1) := by decide +kernel
theorem dFS_1 : decode jdk_41_method_13_code 1 = .ok (.iload_n 0, 1) := by decide +kernel
theorem dFS_2 : decode jdk_41_method_13_code 2 = .ok (.ior, 1) := by decide +kernel
theorem dFS_3 : decode jdk_41_method_13_code 3 = .ok (.iload_n 1, 1) := by decide +kernel
theorem dFS_4 : decode jdk_41_method_13_code 4 = .ok (.ior, 1) := by decide +kernel
theorem dFS_5 : decode jdk_41_method_13_code 5 = .ok (.ifCond .lt 10, 3) := by decide +kernel
theorem dFS_8 : decode jdk_41_method_13_code 8 = .ok (.iload_n 1, 1) := by decide +kernel
theorem dFS_9 : decode jdk_41_method_13_code 9 = .ok (.iload_n 2, 1) := by decide +kernel
theorem dFS_10 : decode jdk_41_method_13_code 10 = .ok (.iload_n 0, 1) := by decide +kernel
theorem dFS_11 : decode jdk_41_method_13_code 11 = .ok (.isub, 1) := by decide +kernel
theorem dFS_12 : decode jdk_41_method_13_code 12 = .ok (.if_icmp .le 11, 3) := by decide +kernel
theorem dFS_23 : decode jdk_41_method_13_code 23 = .ok (.iload_n 0, 1) := by decide +kernel
theorem dFS_24 : decode jdk_41_method_13_code 24 = .ok (.ireturn, 1) := by decide +kernel
theorem efFS (m : MethodId) (x0 x1 x2 : Int32) (fm : Value) (r : fm.isRef = true) : entryFrame m #[(.int x0), (.int x1), (.int x2), fm] 4 = mkF m 0 #[.val (.int x0), .val (.int x1), .val (.int x2), .val fm] [] := by
  rcases ref_cases r with rfl | ⟨a, rfl⟩ <;> first | (simp [entryFrame, mkF, argsToLocals, Value.category]; done) | rfl
set_option maxRecDepth 65536 in
set_option maxHeartbeats 40000000 in
theorem rmFS (l : Launch) (Z : State) (a0 : Array Value) (hw : ∀ d ∈ tables_1, d.before a0 Z = true) (ws : List Jvm.Cond) (fm : Value) (h0 : Heap) (n0 : Nat) (rfm : fm.isRef = true) :
    MetFree l (⟨"jdk/internal/util/Preconditions", "checkFromIndexSize", "(IIILjava/util/function/BiFunction;)I"⟩ : MethodName) (head1 (Jvm.Cond.code (⟨"jdk/internal/util/Preconditions", "checkFromIndexSize", "(IIILjava/util/function/BiFunction;)I"⟩ : MethodName) jdk_41_method_13_code 4 (some .int) :: ws) ({ frames := 0, cells := 0, slots := 0, locals := 0 } : Room)) (fun as_ U => as_ = #[(.int (0 : Int32)), (.int (19 : Int32)), (.int (128 : Int32)), fm] ∧ Z.Warmed39 U.vm ∧ U.heap = h0) (fun _ _ _ _ _ => True) (fun _ U o U' => ∃ v L, o = .returned v ∧ QU (some (.int (0 : Int32))) h0 n0 v U'.heap L ∧ FrameEnd U o U' L ({ frames := 0, cells := 0, slots := 0, locals := 0 } : Room).cells ({ frames := 0, cells := 0, slots := 0, locals := 0 } : Room).slots) := by
  refine MetFree.of_bodySF (plainFor_of_name pnP) hisR ?_
  intro p e s m args below meth c s₁ Bd hml0 hP hK
  obtain ⟨rfl, hZ, hh⟩ := hP
  have hx := Bd.exec
  have hby := Bd.bytes
  have hml : c.maxLocals = 4 := hml0
  have hown : s.vm.findClass "jdk/internal/util/Preconditions" = some m.cls := findClass_of_methodNamed Bd.named
  have hnm := (name_of_methodNamed Bd.named Bd.method).1
  have X0 : Stand p l e ({ frames := 0, cells := 0, slots := 0, locals := 0 } : Room) s m #[(.int (0 : Int32)), (.int (19 : Int32)), (.int (128 : Int32)), fm] below meth c s₁ [] 0 0 := Stand.of_body Bd
  have e0 : s₁.heap = h0 := by rw [← hh, Bd.state]; rfl
  have N0 := Fr.nil n0
  have go0 : ∀ tg_, Steps p.tables e below (s₁.setTop (mkF m 0 #[.val (.int (0 : Int32)), .val (.int (19 : Int32)), .val (.int (128 : Int32)), .val fm] [])) tg_ → Steps p.tables e below (s₁.setTop (entryFrame m #[(.int (0 : Int32)), (.int (19 : Int32)), (.int (128 : Int32)), fm] 4)) tg_ := fun tg_ k => castTop (efFS m (0 : Int32) (19 : Int32) (128 : Int32) fm rfm) k
  obtain ⟨fs, hr, hrun, hended, hW, hsame⟩ := X0.leave (v := some (.int (0 : Int32))) (fun h => by rw [Bd.returns] at h; cases h)
  refine ⟨_, _, go0 _ ?_, hrun, hended, _, _, rfl, ?_, ⟨_, rfl⟩, hW, hsame.mono (by decide) (by decide)⟩
  · show Steps p.tables e below (s₁.setTop (mkF m 0 #[.val (.int (0 : Int32)), .val (.int (19 : Int32)), .val (.int (128 : Int32)), .val fm] [])) _
    refine XS.iloadN X0.here hx rfl (hb hby dFS_0) rfl ?_
    show Steps p.tables e below (s₁.setTop (mkF m 1 #[.val (.int (0 : Int32)), .val (.int (19 : Int32)), .val (.int (128 : Int32)), .val fm] [(.int (128 : Int32))])) _
    refine XS.iloadN X0.here hx rfl (hb hby dFS_1) rfl ?_
    show Steps p.tables e below (s₁.setTop (mkF m 2 #[.val (.int (0 : Int32)), .val (.int (19 : Int32)), .val (.int (128 : Int32)), .val fm] [(.int (0 : Int32)), (.int (128 : Int32))])) _
    refine XS.ior X0.here hx rfl (hb hby dFS_2) rfl ?_
    show Steps p.tables e below (s₁.setTop (mkF m 3 #[.val (.int (0 : Int32)), .val (.int (19 : Int32)), .val (.int (128 : Int32)), .val fm] [(.int ((128 : Int32) ||| (0 : Int32)))])) _
    refine XS.iloadN X0.here hx rfl (hb hby dFS_3) rfl ?_
    show Steps p.tables e below (s₁.setTop (mkF m 4 #[.val (.int (0 : Int32)), .val (.int (19 : Int32)), .val (.int (128 : Int32)), .val fm] [(.int (19 : Int32)), (.int ((128 : Int32) ||| (0 : Int32)))])) _
    refine XS.ior X0.here hx rfl (hb hby dFS_4) rfl ?_
    show Steps p.tables e below (s₁.setTop (mkF m 5 #[.val (.int (0 : Int32)), .val (.int (19 : Int32)), .val (.int (128 : Int32)), .val fm] [(.int (((128 : Int32) ||| (0 : Int32)) ||| (19 : Int32)))])) _
    refine XS.ifNo X0.here hx rfl (hb hby dFS_5) rfl ((if0 _ _).trans (flt ((by decide) : ¬ ((((128 : Int32) ||| (0 : Int32)) ||| (19 : Int32)) < (0 : Int32)))).1) ?_
    show Steps p.tables e below (s₁.setTop (mkF m 8 #[.val (.int (0 : Int32)), .val (.int (19 : Int32)), .val (.int (128 : Int32)), .val fm] [])) _
    refine XS.iloadN X0.here hx rfl (hb hby dFS_8) rfl ?_
    show Steps p.tables e below (s₁.setTop (mkF m 9 #[.val (.int (0 : Int32)), .val (.int (19 : Int32)), .val (.int (128 : Int32)), .val fm] [(.int (19 : Int32))])) _
    refine XS.iloadN X0.here hx rfl (hb hby dFS_9) rfl ?_
    show Steps p.tables e below (s₁.setTop (mkF m 10 #[.val (.int (0 : Int32)), .val (.int (19 : Int32)), .val (.int (128 : Int32)), .val fm] [(.int (128 : Int32)), (.int (19 : Int32))])) _
    refine XS.iloadN X0.here hx rfl (hb hby dFS_10) rfl ?_
    show Steps p.tables e below (s₁.setTop (mkF m 11 #[.val (.int (0 : Int32)), .val (.int (19 : Int32)), .val (.int (128 : Int32)), .val fm] [(.int (0 : Int32)), (.int (128 : Int32)), (.int (19 : Int32))])) _
    refine XS.isub X0.here hx rfl (hb hby dFS_11) rfl ?_
    show Steps p.tables e below (s₁.setTop (mkF m 12 #[.val (.int (0 : Int32)), .val (.int (19 : Int32)), .val (.int (128 : Int32)), .val fm] [(.int ((128 : Int32) - (0 : Int32))), (.int (19 : Int32))])) _
    refine XS.icmpYes X0.here hx rfl (pc0 := 12) (pc' := 23) rfl (hb hby dFS_12) rfl (flt ((by decide) : ¬ (((128 : Int32) - (0 : Int32)) < (19 : Int32)))).2.2.2 (by decide) (by decide) ?_
    show Steps p.tables e below (s₁.setTop (mkF m 23 #[.val (.int (0 : Int32)), .val (.int (19 : Int32)), .val (.int (128 : Int32)), .val fm] [])) _
    refine XS.iloadN X0.here hx rfl (hb hby dFS_23) rfl ?_
    show Steps p.tables e below (s₁.setTop (mkF m 24 #[.val (.int (0 : Int32)), .val (.int (19 : Int32)), .val (.int (128 : Int32)), .val fm] [(.int (0 : Int32))])) _
    exact retI X0 hx Bd.returns (hb hby dFS_24) hr
  · show QU (some (.int (0 : Int32))) h0 n0 _ s₁.heap _
    rw [e0]
    exact ⟨rfl, N0, rfl⟩
theorem dOC_0 : decode jdk_42_method_157_code 0 = .ok (.iload_n 0, 1) := by decide +kernel
theorem dOC_1 : decode jdk_42_method_157_code 1 = .ok (.iload_n 1, 1) := by decide +kernel
theorem dOC_2 : decode jdk_42_method_157_code 2 = .ok (.iload_n 2, 1) := by decide +kernel
theorem dOC_3 : decode jdk_42_method_157_code 3 = .ok (.getstatic 1053, 3) := by decide +kernel
theorem dOC_6 : decode jdk_42_method_157_code 6 = .ok (.invokestatic 1065, 3) := by decide +kernel
theorem dOC_9 : decode jdk_42_method_157_code 9 = .ok (.ireturn, 1) := by decide +kernel
theorem efOC (m : MethodId) (x0 : Int32) (x1 : Int32) (x2 : Int32) : entryFrame m #[(.int x0), (.int x1), (.int x2)] 3 = mkF m 0 #[.val (.int x0), .val (.int x1), .val (.int x2)] [] := by first | (simp [entryFrame, mkF, argsToLocals, Value.category]; done) | rfl
set_option maxRecDepth 65536 in
set_option maxHeartbeats 40000000 in
theorem rmOC (l : Launch) (Z : State) (a0 : Array Value) (hw : ∀ d ∈ tables_1, d.before a0 Z = true) (ws : List Jvm.Cond) (fm : Value) (h0 : Heap) (n0 : Nat) (S4 : Sta Z h0 "jdk/internal/util/Preconditions" "SIOOBE_FORMATTER" "Ljava/util/function/BiFunction;" fm) (rfm : fm.isRef = true) :
    MetFree l (⟨"java/lang/String", "checkBoundsOffCount", "(III)I"⟩ : MethodName) (head1 (Jvm.Cond.code (⟨"java/lang/String", "checkBoundsOffCount", "(III)I"⟩ : MethodName) jdk_42_method_157_code 3 (some .int) :: ws) ({ frames := 1, cells := 0, slots := 0, locals := 15 } : Room)) (fun as_ U => as_ = #[(.int (0 : Int32)), (.int (19 : Int32)), (.int (128 : Int32))] ∧ Z.Warmed39 U.vm ∧ U.heap = h0) (fun _ _ _ _ _ => True) (fun _ U o U' => ∃ v L, o = .returned v ∧ QU (some (.int (0 : Int32))) h0 n0 v U'.heap L ∧ FrameEnd U o U' L ({ frames := 1, cells := 0, slots := 0, locals := 15 } : Room).cells ({ frames := 1, cells := 0, slots := 0, locals := 15 } : Room).slots) := by
  refine MetFree.of_bodySF (plainFor_of_name pnST) hisR ?_
  intro p e s m args below meth c s₁ Bd hml0 hP hK
  obtain ⟨rfl, hZ, hh⟩ := hP
  have hx := Bd.exec
  have hby := Bd.bytes
  have hml : c.maxLocals = 3 := hml0
  have hown : s.vm.findClass "java/lang/String" = some m.cls := findClass_of_methodNamed Bd.named
  have hnm := (name_of_methodNamed Bd.named Bd.method).1
  have X0 : Stand p l e ({ frames := 1, cells := 0, slots := 0, locals := 15 } : Room) s m #[(.int (0 : Int32)), (.int (19 : Int32)), (.int (128 : Int32))] below meth c s₁ [] 0 0 := Stand.of_body Bd
  have e0 : s₁.heap = h0 := by rw [← hh, Bd.state]; rfl
  have N0 := Fr.nil n0
  have go0 : ∀ tg_, Steps p.tables e below (s₁.setTop (mkF m 0 #[.val (.int (0 : Int32)), .val (.int (19 : Int32)), .val (.int (128 : Int32))] [])) tg_ → Steps p.tables e below (s₁.setTop (entryFrame m #[(.int (0 : Int32)), (.int (19 : Int32)), (.int (128 : Int32))] 3)) tg_ := fun tg_ k => castTop (efOC m (0 : Int32) (19 : Int32) (128 : Int32)) k
  obtain ⟨T101, X101, e101, st101⟩ := getS2 X0 hx hZ hown (host := "") (Or.inl (hw _ (List.mem_of_getElem? (i := 102) rfl))) Via.refl e0 S4 (g := (mkF m 3 #[.val (.int (0 : Int32)), .val (.int (19 : Int32)), .val (.int (128 : Int32))] [(.int (128 : Int32)), (.int (19 : Int32)), (.int (0 : Int32))])) rfl (hb hby dOC_3)
  obtain ⟨_, _, ⟨T102, L102, kk102, nn102⟩, -, X102, ⟨Lc102, hQ102, l102, y102, z102⟩, st102⟩ := Jvm.LawKit.callS X101 hx (y := (⟨"jdk/internal/util/Preconditions", "checkFromIndexSize", "(IIILjava/util/function/BiFunction;)I"⟩ : MethodName)) hown (mvT hZ (hw _ (List.mem_of_getElem? (i := 110) rfl))) (mvT hZ (hw _ (List.mem_of_getElem? (i := 111) rfl))) (mvT hZ (hw _ (List.mem_of_getElem? (i := 103) rfl))) (mvT hZ (hw _ (List.mem_of_getElem? (i := 112) rfl))) (by decide) (backOf (W := 0) (rmFS l Z a0 hw [] fm h0 n0 rfm) hZ (hw _ (List.mem_of_getElem? (i := 112) rfl)) (hw _ (List.mem_of_getElem? (i := 103) rfl)) (by decide) (by decide)) (g := (mkF m 6 #[.val (.int (0 : Int32)), .val (.int (19 : Int32)), .val (.int (128 : Int32))] [fm, (.int (128 : Int32)), (.int (19 : Int32)), (.int (0 : Int32))])) rfl (by rw [hml]; rfl) (argsL := [(.int (0 : Int32)), (.int (19 : Int32)), (.int (128 : Int32)), fm]) (rest := []) (lenOf pd__IIILjava_util_function_BiFunction__I rfl) rfl (by show 2 * 0 + _ ≤ _; exact Nat.le_of_eq rfl) (hb hby dOC_6) (fun _ _ => ⟨rfl, e101, Nat.le_of_ble_eq_true rfl, Nat.le_of_ble_eq_true rfl⟩)
  dsimp only [Pt.U, Pt.locs, Pt.cells, Pt.slots] at X102 l102 y102 z102 st102 hQ102
  subst l102 y102 z102
  obtain ⟨rfl, Nq102, e102⟩ := hQ102
  have N102 := Fr.app N0 Nq102
  obtain ⟨fs, hr, hrun, hended, hW, hsame⟩ := X102.leave (v := some (.int (0 : Int32))) (fun h => by rw [Bd.returns] at h; cases h)
  refine ⟨_, _, go0 _ ?_, hrun, hended, _, _, rfl, ?_, ⟨_, rfl⟩, hW, hsame.mono (by decide) (by decide)⟩
  · show Steps p.tables e below (s₁.setTop (mkF m 0 #[.val (.int (0 : Int32)), .val (.int (19 : Int32)), .val (.int (128 : Int32))] [])) _
    refine XS.iloadN X0.here hx rfl (hb hby dOC_0) rfl ?_
    show Steps p.tables e below (s₁.setTop (mkF m 1 #[.val (.int (0 : Int32)), .val (.int (19 : Int32)), .val (.int (128 : Int32))] [(.int (0 : Int32))])) _
    refine XS.iloadN X0.here hx rfl (hb hby dOC_1) rfl ?_
    show Steps p.tables e below (s₁.setTop (mkF m 2 #[.val (.int (0 : Int32)), .val (.int (19 : Int32)), .val (.int (128 : Int32))] [(.int (19 : Int32)), (.int (0 : Int32))])) _
    refine XS.iloadN X0.here hx rfl (hb hby dOC_2) rfl ?_
    show Steps p.tables e below (s₁.setTop (mkF m 3 #[.val (.int (0 : Int32)), .val (.int (19 : Int32)), .val (.int (128 : Int32))] [(.int (128 : Int32)), (.int (19 : Int32)), (.int (0 : Int32))])) _
    refine st101 _ ?_
    show Steps p.tables e below (T101.setTop (mkF m 6 #[.val (.int (0 : Int32)), .val (.int (19 : Int32)), .val (.int (128 : Int32))] [fm, (.int (128 : Int32)), (.int (19 : Int32)), (.int (0 : Int32))])) _
    refine st102 _ ?_
    show Steps p.tables e below (T102.setTop (mkF m 9 #[.val (.int (0 : Int32)), .val (.int (19 : Int32)), .val (.int (128 : Int32))] [(.int (0 : Int32))])) _
    exact retI X102 hx Bd.returns (hb hby dOC_9) hr
  · show QU (some (.int (0 : Int32))) h0 n0 _ T102.heap _
    rw [e102]
    exact ⟨rfl, N102, rfl⟩
theorem dIL_0 : decode jdk_42_method_154_code 0 = .ok (.getstatic 38, 3) := by decide +kernel
theorem dIL_3 : decode jdk_42_method_154_code 3 = .ok (.ifCond .eq 14, 3) := by decide +kernel
theorem dIL_6 : decode jdk_42_method_154_code 6 = .ok (.aload_n 0, 1) := by decide +kernel
theorem dIL_7 : decode jdk_42_method_154_code 7 = .ok (.getfield 15, 3) := by decide +kernel
theorem dIL_10 : decode jdk_42_method_154_code 10 = .ok (.ifCond .ne 7, 3) := by decide +kernel
theorem dIL_13 : decode jdk_42_method_154_code 13 = .ok (.iconst 1, 1) := by decide +kernel
theorem dIL_14 : decode jdk_42_method_154_code 14 = .ok (.goto 4, 3) := by decide +kernel
theorem dIL_18 : decode jdk_42_method_154_code 18 = .ok (.ireturn, 1) := by decide +kernel
theorem efIL (m : MethodId) (x0 : Addr) : entryFrame m #[(.ref x0)] 1 = mkF m 0 #[.val (.ref x0)] [] := by first | (simp [entryFrame, mkF, argsToLocals, Value.category]; done) | rfl
set_option maxRecDepth 65536 in
set_option maxHeartbeats 40000000 in
theorem rmIL (l : Launch) (Z : State) (a0 : Array Value) (hw : ∀ d ∈ tables_1, d.before a0 Z = true) (ws : List Jvm.Cond) (x : Addr) (G1 : Int32) (h0 : Heap) (n0 : Nat) (S2 : Sta Z h0 "java/lang/String" "COMPACT_STRINGS" "Z" (.int G1)) (P5 : ¬ (G1 = (0 : Int32))) (FC : Fld Z h0 x "java/lang/String" "coder" "B" (.int (0 : Int32))) :
    MetFree l (⟨"java/lang/String", "isLatin1", "()Z"⟩ : MethodName) (head1 (Jvm.Cond.code (⟨"java/lang/String", "isLatin1", "()Z"⟩ : MethodName) jdk_42_method_154_code 1 (some .boolean) :: ws) ({ frames := 0, cells := 0, slots := 0, locals := 0 } : Room)) (fun as_ U => as_ = #[(.ref x)] ∧ Z.Warmed39 U.vm ∧ U.heap = h0) (fun _ _ _ _ _ => True) (fun _ U o U' => ∃ v L, o = .returned v ∧ QU (some (.int (1 : Int32))) h0 n0 v U'.heap L ∧ FrameEnd U o U' L ({ frames := 0, cells := 0, slots := 0, locals := 0 } : Room).cells ({ frames := 0, cells := 0, slots := 0, locals := 0 } : Room).slots) := by
  refine MetFree.of_bodySF (plainFor_of_name pnST) hisR ?_
  intro p e s m args below meth c s₁ Bd hml0 hP hK
  obtain ⟨rfl, hZ, hh⟩ := hP
  have hx := Bd.exec
  have hby := Bd.bytes
  have hml : c.maxLocals = 1 := hml0
  have hown : s.vm.findClass "java/lang/String" = some m.cls := findClass_of_methodNamed Bd.named
  have hnm := (name_of_methodNamed Bd.named Bd.method).1
  have X0 : Stand p l e ({ frames := 0, cells := 0, slots := 0, locals := 0 } : Room) s m #[(.ref x)] below meth c s₁ [] 0 0 := Stand.of_body Bd
  have e0 : s₁.heap = h0 := by rw [← hh, Bd.state]; rfl
  have N0 := Fr.nil n0
  have go0 : ∀ tg_, Steps p.tables e below (s₁.setTop (mkF m 0 #[.val (.ref x)] [])) tg_ → Steps p.tables e below (s₁.setTop (entryFrame m #[(.ref x)] 1)) tg_ := fun tg_ k => castTop (efIL m x) k
  obtain ⟨T101, X101, e101, st101⟩ := getS2 X0 hx hZ hown (host := "") (Or.inl (hw _ (List.mem_of_getElem? (i := 56) rfl))) Via.refl e0 S2 (g := (mkF m 0 #[.val (.ref x)] [])) rfl (hb hby dIL_0)
  obtain ⟨T102, X102, e102, st102⟩ := getF X101 hx hZ hown (host := "") (Or.inl (hw _ (List.mem_of_getElem? (i := 68) rfl))) Via.refl e101 FC (g := (mkF m 7 #[.val (.ref x)] [(.ref x)])) rfl rfl (hb hby dIL_7)
  obtain ⟨fs, hr, hrun, hended, hW, hsame⟩ := X102.leave (v := some (.int (1 : Int32))) (fun h => by rw [Bd.returns] at h; cases h)
  refine ⟨_, _, go0 _ ?_, hrun, hended, _, _, rfl, ?_, ⟨_, rfl⟩, hW, hsame.mono (by decide) (by decide)⟩
  · show Steps p.tables e below (s₁.setTop (mkF m 0 #[.val (.ref x)] [])) _
    refine st101 _ ?_
    show Steps p.tables e below (T101.setTop (mkF m 3 #[.val (.ref x)] [(.int G1)])) _
    refine XS.ifNo X101.here hx rfl (hb hby dIL_3) rfl ((if0 _ _).trans (feq (P5 : ¬ (G1 = (0 : Int32)))).1) ?_
    show Steps p.tables e below (T101.setTop (mkF m 6 #[.val (.ref x)] [])) _
    refine XS.aloadN X101.here hx rfl (hb hby dIL_6) rfl rfl ?_
    show Steps p.tables e below (T101.setTop (mkF m 7 #[.val (.ref x)] [(.ref x)])) _
    refine st102 _ ?_
    show Steps p.tables e below (T102.setTop (mkF m 10 #[.val (.ref x)] [(.int (0 : Int32))])) _
    refine XS.ifNo X102.here hx rfl (hb hby dIL_10) rfl ((if0 _ _).trans (teq (rfl : (0 : Int32) = (0 : Int32))).2) ?_
    show Steps p.tables e below (T102.setTop (mkF m 13 #[.val (.ref x)] [])) _
    refine XS.iconst X102.here hx rfl (hb hby dIL_13) ?_
    show Steps p.tables e below (T102.setTop (mkF m 14 #[.val (.ref x)] [(.int (1 : Int32))])) _
    refine XS.goto X102.here hx rfl (pc0 := 14) (pc' := 18) rfl (hb hby dIL_14) (by decide) (by decide) ?_
    show Steps p.tables e below (T102.setTop (mkF m 18 #[.val (.ref x)] [(.int (1 : Int32))])) _
    exact retN X102 hx (t := .boolean) Bd.returns (by simp) (hb hby dIL_18) hr
  · show QU (some (.int (1 : Int32))) h0 n0 _ T102.heap _
    rw [e102]
    exact ⟨rfl, N0, rfl⟩
theorem dIN_0 : decode jdk_43_method_49_code 0 = .ok (.iconst 0, 1) := by decide +kernel
theorem dIN_1 : decode jdk_43_method_49_code 1 = .ok (.istore 5, 2) := by decide +kernel
theorem dIN_3 : decode jdk_43_method_49_code 3 = .ok (.iload 5, 2) := by decide +kernel
theorem dIN_5 : decode jdk_43_method_49_code 5 = .ok (.iload 4, 2) := by decide +kernel
theorem dIN_7 : decode jdk_43_method_49_code 7 = .ok (.if_icmp .ge 26, 3) := by decide +kernel
theorem dIN_10 : decode jdk_43_method_49_code 10 = .ok (.aload_n 2, 1) := by decide +kernel
theorem dIN_11 : decode jdk_43_method_49_code 11 = .ok (.iload_n 3, 1) := by decide +kernel
theorem dIN_12 : decode jdk_43_method_49_code 12 = .ok (.iinc 3 1, 3) := by decide +kernel
theorem dIN_15 : decode jdk_43_method_49_code 15 = .ok (.aload_n 0, 1) := by decide +kernel
theorem dIN_16 : decode jdk_43_method_49_code 16 = .ok (.iload_n 1, 1) := by decide +kernel
theorem dIN_17 : decode jdk_43_method_49_code 17 = .ok (.iinc 1 1, 3) := by decide +kernel
theorem dIN_20 : decode jdk_43_method_49_code 20 = .ok (.baload, 1) := by decide +kernel
theorem dIN_21 : decode jdk_43_method_49_code 21 = .ok (.sipush 255, 3) := by decide +kernel
theorem dIN_24 : decode jdk_43_method_49_code 24 = .ok (.iand, 1) := by decide +kernel
theorem dIN_25 : decode jdk_43_method_49_code 25 = .ok (.i2c, 1) := by decide +kernel
theorem dIN_26 : decode jdk_43_method_49_code 26 = .ok (.castore, 1) := by decide +kernel
theorem dIN_27 : decode jdk_43_method_49_code 27 = .ok (.iinc 5 1, 3) := by decide +kernel
theorem dIN_30 : decode jdk_43_method_49_code 30 = .ok (.goto (-27), 3) := by decide +kernel
theorem dIN_33 : decode jdk_43_method_49_code 33 = .ok (.return_, 1) := by decide +kernel
theorem own_inf {W pp i : Nat} (hi : i < 19) : (((own_cs W pp).take i).map Value.int ++ List.replicate 1 (Value.int (0 : Int32))).set i (Value.int (nar .char ((((Int32.ofNat (own_ch W pp i)).toInt8.toInt32 &&& (255 : Int32)).toUInt32.toUInt16.toUInt32.toInt32)))) = ((own_cs W pp).take (i + 1)).map Value.int := by
  have := own_ch_rng W pp i
  rw [own_mask (by omega), List.map_take, List.map_take]
  exact own_take_set _ i (by simp [own_cs_len, hi]) _ _ (by simp [own_cs])
set_option maxRecDepth 65536 in
set_option maxHeartbeats 40000000 in
theorem tnIN {p : Program} {l : Launch} {e : Env} {R : Room} {s : State} {m : MethodId} {args : Array Value} {below : List Frame} {meth : Method} {c : Code} {T0 : State} {locs : List Loc} {cells slots : Nat} {Z : State} {a0 : Array Value} {h0 : Heap} {n0 : Nat} (W pp i : Nat) (t d : Addr) (kt kd : ClassId)
    (X0 : Stand p l e R s m args below meth c T0 locs cells slots) (hx : p.tables.exec = Jvm.exec) (hZ : Z.Warmed39 s.vm) (hw : ∀ d ∈ tables_1, d.before a0 Z = true) (hby : c.code = jdk_43_method_49_code) (hml : c.maxLocals = 6) (hown : s.vm.findClass "java/lang/StringLatin1" = some m.cls) (e0 : T0.heap = h0) (N0 : Fr n0 locs) (hi : i < 19) (ntd : t ≠ d) (g_d : n0 ≤ d) (VS : Arv Z h0 t kt .byte (19 : Int32) (((own_cs W pp).map (fun c => c.toInt8.toInt32)).map Value.int) (.int (0 : Int32))) (VD : Arv Z h0 d kd .char (128 : Int32) (((own_cs W pp).take i).map Value.int) (.int (0 : Int32))) :
    ∃ (T' : State) (h' : Heap) (locs' : List Loc), Stand p l e R s m args below meth c T' locs' cells slots ∧ Fr n0 locs' ∧ T'.heap = h' ∧ Keep h0 h' [d] ∧ Arv Z h' d kd .char (128 : Int32) (((own_cs W pp).take (i + 1)).map Value.int) (.int (0 : Int32)) ∧ ∀ target, Steps p.tables e below (T'.setTop (mkF m 3 #[.val (.ref t), .val (.int (Int32.ofNat (i + 1))), .val (.ref d), .val (.int (Int32.ofNat (i + 1))), .val (.int (19 : Int32)), .val (.int (Int32.ofNat (i + 1)))] [])) target → Steps p.tables e below (T0.setTop (mkF m 3 #[.val (.ref t), .val (.int (Int32.ofNat i)), .val (.ref d), .val (.int (Int32.ofNat i)), .val (.int (19 : Int32)), .val (.int (Int32.ofNat i))] [])) target := by
  have go0 : ∀ tg_, Steps p.tables e below (T0.setTop (mkF m 3 #[.val (.ref t), .val (.int (Int32.ofNat i)), .val (.ref d), .val (.int (Int32.ofNat i)), .val (.int (19 : Int32)), .val (.int (Int32.ofNat i))] [])) tg_ → Steps p.tables e below (T0.setTop (mkF m 3 #[.val (.ref t), .val (.int (Int32.ofNat i)), .val (.ref d), .val (.int (Int32.ofNat i)), .val (.int (19 : Int32)), .val (.int (Int32.ofNat i))] [])) tg_ := fun tg_ k => k
  obtain ⟨cl101, Ar101, q101, S101, M101, Hh101, G101⟩ := id VS
  have hin101 : ¬ ((Int32.ofNat i) < 0 ∨ cl101.slots.size ≤ ((Int32.ofNat i)).toNatClampNeg) := inb_of S101 ⟨own_nn (by omega), own_lt32 (b := 19) hi (by decide)⟩
  have hat101 : cl101.slots[((Int32.ofNat i)).toNatClampNeg]? = some (.int ((Int32.ofNat (own_ch W pp i)).toInt8.toInt32)) := Has.at Hh101 hin101 (by rw [own_clamp (by omega)]; exact own_cs_b hi)
  obtain ⟨cl102, Ar102, q102, S102, M102, Hh102, G102⟩ := id (VD.pad (pad_rep (((own_cs W pp).take i).map Value.int) (.int (0 : Int32)) 1))
  obtain ⟨T102, h102, X102, e102, W102, st102⟩ := stC X0 hx hZ e0 Ar102 (j := (Int32.ofNat i)) (inb_of S102 ⟨own_nn (by omega), own_lt32 (b := 128) (by omega) (by decide)⟩) (g := (mkF m 26 #[.val (.ref t), .val (.int ((Int32.ofNat i) + (1 : Int32))), .val (.ref d), .val (.int ((Int32.ofNat i) + (1 : Int32))), .val (.int (19 : Int32)), .val (.int (Int32.ofNat i))] [(.int ((((Int32.ofNat (own_ch W pp i)).toInt8.toInt32) &&& (255 : Int32)).toUInt32.toUInt16.toUInt32.toInt32)), (.int (Int32.ofNat i)), (.ref d)])) rfl rfl (hb hby dIN_26)
  have V_d_102 : Arv Z h102 d kd .char (128 : Int32) (((own_cs W pp).take (i + 1)).map Value.int) (.int (0 : Int32)) := (own_inf hi) ▸ (Arv.set Ar102 q102 S102 M102 Hh102 G102 (fits_nar_char _) W102 i (own_clamp (by omega)) (by simp [own_cs_len]; omega))
  have K102 : Keep h0 h102 [d] := Keep.of_wr W102
  have N102 := Fr.snoc X102 N0 g_d
  have go103 : ∀ tg_, Steps p.tables e below (T102.setTop (mkF m 3 #[.val (.ref t), .val (.int ((Int32.ofNat i) + (1 : Int32))), .val (.ref d), .val (.int ((Int32.ofNat i) + (1 : Int32))), .val (.int (19 : Int32)), .val (.int ((Int32.ofNat i) + (1 : Int32)))] [])) tg_ → Steps p.tables e below (T0.setTop (mkF m 3 #[.val (.ref t), .val (.int (Int32.ofNat i)), .val (.ref d), .val (.int (Int32.ofNat i)), .val (.int (19 : Int32)), .val (.int (Int32.ofNat i))] [])) tg_ := fun tg_ k => go0 tg_ (by
      show Steps p.tables e below (T0.setTop (mkF m 3 #[.val (.ref t), .val (.int (Int32.ofNat i)), .val (.ref d), .val (.int (Int32.ofNat i)), .val (.int (19 : Int32)), .val (.int (Int32.ofNat i))] [])) _
      refine XS.iload X0.here hx rfl (hb hby dIN_3) rfl ?_
      show Steps p.tables e below (T0.setTop (mkF m 5 #[.val (.ref t), .val (.int (Int32.ofNat i)), .val (.ref d), .val (.int (Int32.ofNat i)), .val (.int (19 : Int32)), .val (.int (Int32.ofNat i))] [(.int (Int32.ofNat i))])) _
      refine XS.iload X0.here hx rfl (hb hby dIN_5) rfl ?_
      show Steps p.tables e below (T0.setTop (mkF m 7 #[.val (.ref t), .val (.int (Int32.ofNat i)), .val (.ref d), .val (.int (Int32.ofNat i)), .val (.int (19 : Int32)), .val (.int (Int32.ofNat i))] [(.int (19 : Int32)), (.int (Int32.ofNat i))])) _
      refine XS.icmpNo X0.here hx rfl (hb hby dIN_7) rfl (tlt (own_lt32 (b := 19) hi (by decide) : (Int32.ofNat i) < (19 : Int32))).2.1 ?_
      show Steps p.tables e below (T0.setTop (mkF m 10 #[.val (.ref t), .val (.int (Int32.ofNat i)), .val (.ref d), .val (.int (Int32.ofNat i)), .val (.int (19 : Int32)), .val (.int (Int32.ofNat i))] [])) _
      refine XS.aloadN X0.here hx rfl (hb hby dIN_10) rfl rfl ?_
      show Steps p.tables e below (T0.setTop (mkF m 11 #[.val (.ref t), .val (.int (Int32.ofNat i)), .val (.ref d), .val (.int (Int32.ofNat i)), .val (.int (19 : Int32)), .val (.int (Int32.ofNat i))] [(.ref d)])) _
      refine XS.iloadN X0.here hx rfl (hb hby dIN_11) rfl ?_
      show Steps p.tables e below (T0.setTop (mkF m 12 #[.val (.ref t), .val (.int (Int32.ofNat i)), .val (.ref d), .val (.int (Int32.ofNat i)), .val (.int (19 : Int32)), .val (.int (Int32.ofNat i))] [(.int (Int32.ofNat i)), (.ref d)])) _
      refine XS.iinc X0.here hx rfl (hb hby dIN_12) rfl (l' := #[.val (.ref t), .val (.int (Int32.ofNat i)), .val (.ref d), .val (.int ((Int32.ofNat i) + (1 : Int32))), .val (.int (19 : Int32)), .val (.int (Int32.ofNat i))]) rfl ?_
      show Steps p.tables e below (T0.setTop (mkF m 15 #[.val (.ref t), .val (.int (Int32.ofNat i)), .val (.ref d), .val (.int ((Int32.ofNat i) + (1 : Int32))), .val (.int (19 : Int32)), .val (.int (Int32.ofNat i))] [(.int (Int32.ofNat i)), (.ref d)])) _
      refine XS.aloadN X0.here hx rfl (hb hby dIN_15) rfl rfl ?_
      show Steps p.tables e below (T0.setTop (mkF m 16 #[.val (.ref t), .val (.int (Int32.ofNat i)), .val (.ref d), .val (.int ((Int32.ofNat i) + (1 : Int32))), .val (.int (19 : Int32)), .val (.int (Int32.ofNat i))] [(.ref t), (.int (Int32.ofNat i)), (.ref d)])) _
      refine XS.iloadN X0.here hx rfl (hb hby dIN_16) rfl ?_
      show Steps p.tables e below (T0.setTop (mkF m 17 #[.val (.ref t), .val (.int (Int32.ofNat i)), .val (.ref d), .val (.int ((Int32.ofNat i) + (1 : Int32))), .val (.int (19 : Int32)), .val (.int (Int32.ofNat i))] [(.int (Int32.ofNat i)), (.ref t), (.int (Int32.ofNat i)), (.ref d)])) _
      refine XS.iinc X0.here hx rfl (hb hby dIN_17) rfl (l' := #[.val (.ref t), .val (.int ((Int32.ofNat i) + (1 : Int32))), .val (.ref d), .val (.int ((Int32.ofNat i) + (1 : Int32))), .val (.int (19 : Int32)), .val (.int (Int32.ofNat i))]) rfl ?_
      show Steps p.tables e below (T0.setTop (mkF m 20 #[.val (.ref t), .val (.int ((Int32.ofNat i) + (1 : Int32))), .val (.ref d), .val (.int ((Int32.ofNat i) + (1 : Int32))), .val (.int (19 : Int32)), .val (.int (Int32.ofNat i))] [(.int (Int32.ofNat i)), (.ref t), (.int (Int32.ofNat i)), (.ref d)])) _
      refine X0.baloadBytes hx (j := (Int32.ofNat i)) (v := (.int ((Int32.ofNat (own_ch W pp i)).toInt8.toInt32))) (by rw [e0]; exact Ar101.1) (State.isArrayOf_alike hZ.alike Ar101.2.1) Ar101.2.2 hin101 hat101 (g := (mkF m 20 #[.val (.ref t), .val (.int ((Int32.ofNat i) + (1 : Int32))), .val (.ref d), .val (.int ((Int32.ofNat i) + (1 : Int32))), .val (.int (19 : Int32)), .val (.int (Int32.ofNat i))] [(.int (Int32.ofNat i)), (.ref t), (.int (Int32.ofNat i)), (.ref d)])) rfl rfl (hb hby dIN_20) _ ?_
      show Steps p.tables e below (T0.setTop (mkF m 21 #[.val (.ref t), .val (.int ((Int32.ofNat i) + (1 : Int32))), .val (.ref d), .val (.int ((Int32.ofNat i) + (1 : Int32))), .val (.int (19 : Int32)), .val (.int (Int32.ofNat i))] [(.int ((Int32.ofNat (own_ch W pp i)).toInt8.toInt32)), (.int (Int32.ofNat i)), (.ref d)])) _
      refine XS.sipush X0.here hx rfl (hb hby dIN_21) ?_
      show Steps p.tables e below (T0.setTop (mkF m 24 #[.val (.ref t), .val (.int ((Int32.ofNat i) + (1 : Int32))), .val (.ref d), .val (.int ((Int32.ofNat i) + (1 : Int32))), .val (.int (19 : Int32)), .val (.int (Int32.ofNat i))] [(.int (255 : Int32)), (.int ((Int32.ofNat (own_ch W pp i)).toInt8.toInt32)), (.int (Int32.ofNat i)), (.ref d)])) _
      refine XS.iand X0.here hx rfl (hb hby dIN_24) rfl ?_
      show Steps p.tables e below (T0.setTop (mkF m 25 #[.val (.ref t), .val (.int ((Int32.ofNat i) + (1 : Int32))), .val (.ref d), .val (.int ((Int32.ofNat i) + (1 : Int32))), .val (.int (19 : Int32)), .val (.int (Int32.ofNat i))] [(.int (((Int32.ofNat (own_ch W pp i)).toInt8.toInt32) &&& (255 : Int32))), (.int (Int32.ofNat i)), (.ref d)])) _
      refine XS.i2c X0.here hx rfl (hb hby dIN_25) rfl ?_
      show Steps p.tables e below (T0.setTop (mkF m 26 #[.val (.ref t), .val (.int ((Int32.ofNat i) + (1 : Int32))), .val (.ref d), .val (.int ((Int32.ofNat i) + (1 : Int32))), .val (.int (19 : Int32)), .val (.int (Int32.ofNat i))] [(.int ((((Int32.ofNat (own_ch W pp i)).toInt8.toInt32) &&& (255 : Int32)).toUInt32.toUInt16.toUInt32.toInt32)), (.int (Int32.ofNat i)), (.ref d)])) _
      refine st102 _ ?_
      show Steps p.tables e below (T102.setTop (mkF m 27 #[.val (.ref t), .val (.int ((Int32.ofNat i) + (1 : Int32))), .val (.ref d), .val (.int ((Int32.ofNat i) + (1 : Int32))), .val (.int (19 : Int32)), .val (.int (Int32.ofNat i))] [])) _
      refine XS.iinc X102.here hx rfl (hb hby dIN_27) rfl (l' := #[.val (.ref t), .val (.int ((Int32.ofNat i) + (1 : Int32))), .val (.ref d), .val (.int ((Int32.ofNat i) + (1 : Int32))), .val (.int (19 : Int32)), .val (.int ((Int32.ofNat i) + (1 : Int32)))]) rfl ?_
      show Steps p.tables e below (T102.setTop (mkF m 30 #[.val (.ref t), .val (.int ((Int32.ofNat i) + (1 : Int32))), .val (.ref d), .val (.int ((Int32.ofNat i) + (1 : Int32))), .val (.int (19 : Int32)), .val (.int ((Int32.ofNat i) + (1 : Int32)))] [])) _
      refine XS.goto X102.here hx rfl (pc0 := 30) (pc' := 3) rfl (hb hby dIN_30) (by decide) (by decide) ?_
      show Steps p.tables e below (T102.setTop (mkF m 3 #[.val (.ref t), .val (.int ((Int32.ofNat i) + (1 : Int32))), .val (.ref d), .val (.int ((Int32.ofNat i) + (1 : Int32))), .val (.int (19 : Int32)), .val (.int ((Int32.ofNat i) + (1 : Int32)))] [])) _
      exact k)
  rw [own_succ] at go103
  exact ⟨_, _, _, X102, N102, e102, K102, V_d_102, go103⟩
set_option maxHeartbeats 4000000 in
theorem lpIN {p : Program} {l : Launch} {e : Env} {R : Room} {s : State} {m : MethodId} {args : Array Value} {below : List Frame} {meth : Method} {c : Code} {cells slots : Nat} {Z : State} {a0 : Array Value} {n0 : Nat} (W pp : Nat) (t d : Addr) (kt kd : ClassId) (hx : p.tables.exec = Jvm.exec) (hZ : Z.Warmed39 s.vm) (hw : ∀ d ∈ tables_1, d.before a0 Z = true) (hby : c.code = jdk_43_method_49_code) (hml : c.maxLocals = 6) (hown : s.vm.findClass "java/lang/StringLatin1" = some m.cls) (ntd : t ≠ d) (g_d : n0 ≤ d) :
    ∀ (k i : Nat), i + k = 19 → ∀ {T0 : State} {h0 : Heap} {locs : List Loc}, Stand p l e R s m args below meth c T0 locs cells slots → Fr n0 locs → T0.heap = h0 → Arv Z h0 t kt .byte (19 : Int32) (((own_cs W pp).map (fun c => c.toInt8.toInt32)).map Value.int) (.int (0 : Int32)) → Arv Z h0 d kd .char (128 : Int32) (((own_cs W pp).take i).map Value.int) (.int (0 : Int32)) →
    ∃ (T' : State) (h' : Heap) (locs' : List Loc), Stand p l e R s m args below meth c T' locs' cells slots ∧ Fr n0 locs' ∧ T'.heap = h' ∧ Keep h0 h' [d] ∧ Arv Z h' d kd .char (128 : Int32) ((own_cs W pp).map Value.int) (.int (0 : Int32)) ∧ ∀ target, Steps p.tables e below (T'.setTop (mkF m 3 #[.val (.ref t), .val (.int (Int32.ofNat 19)), .val (.ref d), .val (.int (Int32.ofNat 19)), .val (.int (19 : Int32)), .val (.int (Int32.ofNat 19))] [])) target → Steps p.tables e below (T0.setTop (mkF m 3 #[.val (.ref t), .val (.int (Int32.ofNat i)), .val (.ref d), .val (.int (Int32.ofNat i)), .val (.int (19 : Int32)), .val (.int (Int32.ofNat i))] [])) target
  | 0, i, hik, T0, h0, locs, X0, N0, e0, VS, VD => by
    obtain rfl : i = 19 := by omega
    refine ⟨T0, h0, locs, X0, N0, e0, Keep.refl _ _, ?_, fun t k => k⟩
    have e : (own_cs W pp).take 19 = own_cs W pp := List.take_of_length_le (by rw [own_cs_len]; exact Nat.le_refl _)
    rw [e] at VD; exact VD
  | k + 1, i, hik, T0, h0, locs, X0, N0, e0, VS, VD => by
    obtain ⟨T1, h1, L1, X1, N1, e1, K1, V1, g1⟩ := tnIN W pp i t d kt kd X0 hx hZ hw hby hml hown e0 N0 (by omega) ntd g_d VS VD
    obtain ⟨T2, h2, L2, X2, N2, e2, K2, V2, g2⟩ := lpIN W pp t d kt kd hx hZ hw hby hml hown ntd g_d k (i + 1) (by omega) X1 N1 e1 (VS.keep K1 (ninS ntd nin0)) V1
    exact ⟨T2, h2, L2, X2, N2, e2, K1.trans K2 (fun x hx => Or.inl hx), V2, fun t k => g1 t (g2 t k)⟩
theorem efIN (m : MethodId) (x0 : Addr) (x1 : Int32) (x2 : Addr) (x3 : Int32) (x4 : Int32) : entryFrame m #[(.ref x0), (.int x1), (.ref x2), (.int x3), (.int x4)] 6 = mkF m 0 #[.val (.ref x0), .val (.int x1), .val (.ref x2), .val (.int x3), .val (.int x4), .unset] [] := by first | (simp [entryFrame, mkF, argsToLocals, Value.category]; done) | rfl
def QN (Z : State) (d : Addr) (kd : ClassId) (W pp : Nat) (h0 : Heap) (n0 : Nat) (v : Option Value) (h : Heap) (L : List Loc) : Prop := v = none ∧ Fr n0 L ∧ Keep h0 h [d] ∧ Arv Z h d kd .char (128 : Int32) ((own_cs W pp).map Value.int) (.int (0 : Int32))
set_option maxRecDepth 65536 in
set_option maxHeartbeats 40000000 in
theorem rmIN (l : Launch) (Z : State) (a0 : Array Value) (hw : ∀ d ∈ tables_1, d.before a0 Z = true) (ws : List Jvm.Cond) (W pp : Nat) (t d : Addr) (kt kd : ClassId) (h0 : Heap) (n0 : Nat) (ntd : t ≠ d) (g_d : n0 ≤ d) (VS : Arv Z h0 t kt .byte (19 : Int32) (((own_cs W pp).map (fun c => c.toInt8.toInt32)).map Value.int) (.int (0 : Int32))) (VD : Arv Z h0 d kd .char (128 : Int32) [] (.int (0 : Int32))) :
    MetFree l (⟨"java/lang/StringLatin1", "inflate", "([BI[CII)V"⟩ : MethodName) (head1 (Jvm.Cond.code (⟨"java/lang/StringLatin1", "inflate", "([BI[CII)V"⟩ : MethodName) jdk_43_method_49_code 6 none :: ws) ({ frames := 0, cells := 0, slots := 0, locals := 0 } : Room)) (fun as_ U => as_ = #[(.ref t), (.int (0 : Int32)), (.ref d), (.int (0 : Int32)), (.int (19 : Int32))] ∧ Z.Warmed39 U.vm ∧ U.heap = h0) (fun _ _ _ _ _ => True) (fun _ U o U' => ∃ v L, o = .returned v ∧ QN Z d kd W pp h0 n0 v U'.heap L ∧ FrameEnd U o U' L ({ frames := 0, cells := 0, slots := 0, locals := 0 } : Room).cells ({ frames := 0, cells := 0, slots := 0, locals := 0 } : Room).slots) := by
  refine MetFree.of_bodySF (plainFor_of_name pnL1) hisR ?_
  intro p e s m args below meth c s₁ Bd hml0 hP hK
  obtain ⟨rfl, hZ, hh⟩ := hP
  have hx := Bd.exec
  have hby := Bd.bytes
  have hml : c.maxLocals = 6 := hml0
  have hown : s.vm.findClass "java/lang/StringLatin1" = some m.cls := findClass_of_methodNamed Bd.named
  have hnm := (name_of_methodNamed Bd.named Bd.method).1
  have X0 : Stand p l e ({ frames := 0, cells := 0, slots := 0, locals := 0 } : Room) s m #[(.ref t), (.int (0 : Int32)), (.ref d), (.int (0 : Int32)), (.int (19 : Int32))] below meth c s₁ [] 0 0 := Stand.of_body Bd
  have e0 : s₁.heap = h0 := by rw [← hh, Bd.state]; rfl
  have N0 := Fr.nil n0
  have go0 : ∀ tg_, Steps p.tables e below (s₁.setTop (mkF m 0 #[.val (.ref t), .val (.int (0 : Int32)), .val (.ref d), .val (.int (0 : Int32)), .val (.int (19 : Int32)), .unset] [])) tg_ → Steps p.tables e below (s₁.setTop (entryFrame m #[(.ref t), (.int (0 : Int32)), (.ref d), (.int (0 : Int32)), (.int (19 : Int32))] 6)) tg_ := fun tg_ k => castTop (efIN m t (0 : Int32) d (0 : Int32) (19 : Int32)) k
  have go101 : ∀ tg_, Steps p.tables e below (s₁.setTop (mkF m 3 #[.val (.ref t), .val (.int (0 : Int32)), .val (.ref d), .val (.int (0 : Int32)), .val (.int (19 : Int32)), .val (.int (0 : Int32))] [])) tg_ → Steps p.tables e below (s₁.setTop (entryFrame m #[(.ref t), (.int (0 : Int32)), (.ref d), (.int (0 : Int32)), (.int (19 : Int32))] 6)) tg_ := fun tg_ k => go0 tg_ (by
      show Steps p.tables e below (s₁.setTop (mkF m 0 #[.val (.ref t), .val (.int (0 : Int32)), .val (.ref d), .val (.int (0 : Int32)), .val (.int (19 : Int32)), .unset] [])) _
      refine XS.iconst X0.here hx rfl (hb hby dIN_0) ?_
      show Steps p.tables e below (s₁.setTop (mkF m 1 #[.val (.ref t), .val (.int (0 : Int32)), .val (.ref d), .val (.int (0 : Int32)), .val (.int (19 : Int32)), .unset] [(.int (0 : Int32))])) _
      refine XS.istore X0.here hx rfl (hb hby dIN_1) rfl (l' := #[.val (.ref t), .val (.int (0 : Int32)), .val (.ref d), .val (.int (0 : Int32)), .val (.int (19 : Int32)), .val (.int (0 : Int32))]) rfl ?_
      show Steps p.tables e below (s₁.setTop (mkF m 3 #[.val (.ref t), .val (.int (0 : Int32)), .val (.ref d), .val (.int (0 : Int32)), .val (.int (19 : Int32)), .val (.int (0 : Int32))] [])) _
      exact k)
  obtain ⟨T9, h9, L9, X9, N9, e9, K9, V9, g9⟩ := lpIN W pp t d kt kd hx hZ hw hby hml hown ntd g_d 19 0 rfl X0 N0 e0 VS VD
  have go9 : ∀ u, Steps p.tables e below (T9.setTop (mkF m 3 #[.val (.ref t), .val (.int (Int32.ofNat 19)), .val (.ref d), .val (.int (Int32.ofNat 19)), .val (.int (19 : Int32)), .val (.int (Int32.ofNat 19))] [])) u → Steps p.tables e below (s₁.setTop (entryFrame m #[(.ref t), (.int (0 : Int32)), (.ref d), (.int (0 : Int32)), (.int (19 : Int32))] 6)) u := fun u k => go101 u (g9 u k)
  obtain ⟨fs, hr, hrun, hended, hW, hsame⟩ := X9.leave (v := none) (fun _ => rfl)
  refine ⟨_, _, go9 _ ?_, hrun, hended, _, _, rfl, ?_, ⟨_, rfl⟩, hW, hsame.mono (by decide) (by decide)⟩
  · show Steps p.tables e below (T9.setTop (mkF m 3 #[.val (.ref t), .val (.int (Int32.ofNat 19)), .val (.ref d), .val (.int (Int32.ofNat 19)), .val (.int (19 : Int32)), .val (.int (Int32.ofNat 19))] [])) _
    refine XS.iload X9.here hx rfl (hb hby dIN_3) rfl ?_
    show Steps p.tables e below (T9.setTop (mkF m 5 #[.val (.ref t), .val (.int (Int32.ofNat 19)), .val (.ref d), .val (.int (Int32.ofNat 19)), .val (.int (19 : Int32)), .val (.int (Int32.ofNat 19))] [(.int (Int32.ofNat 19))])) _
    refine XS.iload X9.here hx rfl (hb hby dIN_5) rfl ?_
    show Steps p.tables e below (T9.setTop (mkF m 7 #[.val (.ref t), .val (.int (Int32.ofNat 19)), .val (.ref d), .val (.int (Int32.ofNat 19)), .val (.int (19 : Int32)), .val (.int (Int32.ofNat 19))] [(.int (19 : Int32)), (.int (Int32.ofNat 19))])) _
    refine XS.icmpYes X9.here hx rfl (pc0 := 7) (pc' := 33) rfl (hb hby dIN_7) rfl (flt ((by decide) : ¬ ((Int32.ofNat 19) < (19 : Int32)))).2.1 (by decide) (by decide) ?_
    show Steps p.tables e below (T9.setTop (mkF m 33 #[.val (.ref t), .val (.int (Int32.ofNat 19)), .val (.ref d), .val (.int (Int32.ofNat 19)), .val (.int (19 : Int32)), .val (.int (Int32.ofNat 19))] [])) _
    exact X9.returnOut hx Bd.returns (hb hby dIN_33) hr
  · show QN Z d kd W pp h0 n0 _ T9.heap _
    rw [e9]
    exact ⟨rfl, N9, K9, V9⟩
theorem dLG_0 : decode jdk_43_method_11_code 0 = .ok (.aload_n 0, 1) := by decide +kernel
theorem dLG_1 : decode jdk_43_method_11_code 1 = .ok (.iload_n 1, 1) := by decide +kernel
theorem dLG_2 : decode jdk_43_method_11_code 2 = .ok (.aload_n 3, 1) := by decide +kernel
theorem dLG_3 : decode jdk_43_method_11_code 3 = .ok (.iload 4, 2) := by decide +kernel
theorem dLG_5 : decode jdk_43_method_11_code 5 = .ok (.iload_n 2, 1) := by decide +kernel
theorem dLG_6 : decode jdk_43_method_11_code 6 = .ok (.iload_n 1, 1) := by decide +kernel
theorem dLG_7 : decode jdk_43_method_11_code 7 = .ok (.isub, 1) := by decide +kernel
theorem dLG_8 : decode jdk_43_method_11_code 8 = .ok (.invokestatic 13, 3) := by decide +kernel
theorem dLG_11 : decode jdk_43_method_11_code 11 = .ok (.return_, 1) := by decide +kernel
theorem efLG (m : MethodId) (x0 : Addr) (x1 : Int32) (x2 : Int32) (x3 : Addr) (x4 : Int32) : entryFrame m #[(.ref x0), (.int x1), (.int x2), (.ref x3), (.int x4)] 5 = mkF m 0 #[.val (.ref x0), .val (.int x1), .val (.int x2), .val (.ref x3), .val (.int x4)] [] := by first | (simp [entryFrame, mkF, argsToLocals, Value.category]; done) | rfl
set_option maxRecDepth 65536 in
set_option maxHeartbeats 40000000 in
theorem rmLG (l : Launch) (Z : State) (a0 : Array Value) (hw : ∀ d ∈ tables_1, d.before a0 Z = true) (ws : List Jvm.Cond) (W pp : Nat) (t d : Addr) (kt kd : ClassId) (h0 : Heap) (n0 : Nat) (ntd : t ≠ d) (g_d : n0 ≤ d) (VS : Arv Z h0 t kt .byte (19 : Int32) (((own_cs W pp).map (fun c => c.toInt8.toInt32)).map Value.int) (.int (0 : Int32))) (VD : Arv Z h0 d kd .char (128 : Int32) [] (.int (0 : Int32))) :
    MetFree l (⟨"java/lang/StringLatin1", "getChars", "([BII[CI)V"⟩ : MethodName) (head1 (Jvm.Cond.code (⟨"java/lang/StringLatin1", "getChars", "([BII[CI)V"⟩ : MethodName) jdk_43_method_11_code 5 none :: ws) ({ frames := 1, cells := 0, slots := 0, locals := 17 } : Room)) (fun as_ U => as_ = #[(.ref t), (.int (0 : Int32)), (.int (19 : Int32)), (.ref d), (.int (0 : Int32))] ∧ Z.Warmed39 U.vm ∧ U.heap = h0) (fun _ _ _ _ _ => True) (fun _ U o U' => ∃ v L, o = .returned v ∧ QN Z d kd W pp h0 n0 v U'.heap L ∧ FrameEnd U o U' L ({ frames := 1, cells := 0, slots := 0, locals := 17 } : Room).cells ({ frames := 1, cells := 0, slots := 0, locals := 17 } : Room).slots) := by
  refine MetFree.of_bodySF (plainFor_of_name pnL1) hisR ?_
  intro p e s m args below meth c s₁ Bd hml0 hP hK
  obtain ⟨rfl, hZ, hh⟩ := hP
  have hx := Bd.exec
  have hby := Bd.bytes
  have hml : c.maxLocals = 5 := hml0
  have hown : s.vm.findClass "java/lang/StringLatin1" = some m.cls := findClass_of_methodNamed Bd.named
  have hnm := (name_of_methodNamed Bd.named Bd.method).1
  have X0 : Stand p l e ({ frames := 1, cells := 0, slots := 0, locals := 17 } : Room) s m #[(.ref t), (.int (0 : Int32)), (.int (19 : Int32)), (.ref d), (.int (0 : Int32))] below meth c s₁ [] 0 0 := Stand.of_body Bd
  have e0 : s₁.heap = h0 := by rw [← hh, Bd.state]; rfl
  have N0 := Fr.nil n0
  have go0 : ∀ tg_, Steps p.tables e below (s₁.setTop (mkF m 0 #[.val (.ref t), .val (.int (0 : Int32)), .val (.int (19 : Int32)), .val (.ref d), .val (.int (0 : Int32))] [])) tg_ → Steps p.tables e below (s₁.setTop (entryFrame m #[(.ref t), (.int (0 : Int32)), (.int (19 : Int32)), (.ref d), (.int (0 : Int32))] 5)) tg_ := fun tg_ k => castTop (efLG m t (0 : Int32) (19 : Int32) d (0 : Int32)) k
  obtain ⟨_, _, ⟨T101, L101, kk101, nn101⟩, -, X101, ⟨Lc101, hQ101, l101, y101, z101⟩, st101⟩ := Jvm.LawKit.callS X0 hx (y := (⟨"java/lang/StringLatin1", "inflate", "([BI[CII)V"⟩ : MethodName)) hown (mvT hZ (hw _ (List.mem_of_getElem? (i := 122) rfl))) (mvT hZ (hw _ (List.mem_of_getElem? (i := 123) rfl))) (mvT hZ (hw _ (List.mem_of_getElem? (i := 120) rfl))) (mvT hZ (hw _ (List.mem_of_getElem? (i := 124) rfl))) (by decide) (backOf (W := 0) (rmIN l Z a0 hw [] W pp t d kt kd h0 n0 ntd g_d VS VD) hZ (hw _ (List.mem_of_getElem? (i := 124) rfl)) (hw _ (List.mem_of_getElem? (i := 120) rfl)) (by decide) (by decide)) (g := (mkF m 8 #[.val (.ref t), .val (.int (0 : Int32)), .val (.int (19 : Int32)), .val (.ref d), .val (.int (0 : Int32))] [(.int (19 : Int32)), (.int (0 : Int32)), (.ref d), (.int (0 : Int32)), (.ref t)])) rfl (by rw [hml]; rfl) (argsL := [(.ref t), (.int (0 : Int32)), (.ref d), (.int (0 : Int32)), (.int (19 : Int32))]) (rest := []) (lenOf pd___BI_CII_V rfl) rfl (by show 2 * 0 + _ ≤ _; exact Nat.le_of_eq rfl) (hb hby dLG_8) (fun _ _ => ⟨rfl, e0, Nat.le_of_ble_eq_true rfl, Nat.le_of_ble_eq_true rfl⟩)
  dsimp only [Pt.U, Pt.locs, Pt.cells, Pt.slots] at X101 l101 y101 z101 st101 hQ101
  subst l101 y101 z101
  obtain ⟨rfl, Nq101, K101, Vq101⟩ := hQ101
  have N101 := Fr.app N0 Nq101
  obtain ⟨fs, hr, hrun, hended, hW, hsame⟩ := X101.leave (v := none) (fun _ => rfl)
  refine ⟨_, _, go0 _ ?_, hrun, hended, _, _, rfl, ?_, ⟨_, rfl⟩, hW, hsame.mono (by decide) (by decide)⟩
  · show Steps p.tables e below (s₁.setTop (mkF m 0 #[.val (.ref t), .val (.int (0 : Int32)), .val (.int (19 : Int32)), .val (.ref d), .val (.int (0 : Int32))] [])) _
    refine XS.aloadN X0.here hx rfl (hb hby dLG_0) rfl rfl ?_
    show Steps p.tables e below (s₁.setTop (mkF m 1 #[.val (.ref t), .val (.int (0 : Int32)), .val (.int (19 : Int32)), .val (.ref d), .val (.int (0 : Int32))] [(.ref t)])) _
    refine XS.iloadN X0.here hx rfl (hb hby dLG_1) rfl ?_
    show Steps p.tables e below (s₁.setTop (mkF m 2 #[.val (.ref t), .val (.int (0 : Int32)), .val (.int (19 : Int32)), .val (.ref d), .val (.int (0 : Int32))] [(.int (0 : Int32)), (.ref t)])) _
    refine XS.aloadN X0.here hx rfl (hb hby dLG_2) rfl rfl ?_
    show Steps p.tables e below (s₁.setTop (mkF m 3 #[.val (.ref t), .val (.int (0 : Int32)), .val (.int (19 : Int32)), .val (.ref d), .val (.int (0 : Int32))] [(.ref d), (.int (0 : Int32)), (.ref t)])) _
    refine XS.iload X0.here hx rfl (hb hby dLG_3) rfl ?_
    show Steps p.tables e below (s₁.setTop (mkF m 5 #[.val (.ref t), .val (.int (0 : Int32)), .val (.int (19 : Int32)), .val (.ref d), .val (.int (0 : Int32))] [(.int (0 : Int32)), (.ref d), (.int (0 : Int32)), (.ref t)])) _
    refine XS.iloadN X0.here hx rfl (hb hby dLG_5) rfl ?_
    show Steps p.tables e below (s₁.setTop (mkF m 6 #[.val (.ref t), .val (.int (0 : Int32)), .val (.int (19 : Int32)), .val (.ref d), .val (.int (0 : Int32))] [(.int (19 : Int32)), (.int (0 : Int32)), (.ref d), (.int (0 : Int32)), (.ref t)])) _
    refine XS.iloadN X0.here hx rfl (hb hby dLG_6) rfl ?_
    show Steps p.tables e below (s₁.setTop (mkF m 7 #[.val (.ref t), .val (.int (0 : Int32)), .val (.int (19 : Int32)), .val (.ref d), .val (.int (0 : Int32))] [(.int (0 : Int32)), (.int (19 : Int32)), (.int (0 : Int32)), (.ref d), (.int (0 : Int32)), (.ref t)])) _
    refine XS.isub X0.here hx rfl (hb hby dLG_7) rfl ?_
    show Steps p.tables e below (s₁.setTop (mkF m 8 #[.val (.ref t), .val (.int (0 : Int32)), .val (.int (19 : Int32)), .val (.ref d), .val (.int (0 : Int32))] [(.int (19 : Int32)), (.int (0 : Int32)), (.ref d), (.int (0 : Int32)), (.ref t)])) _
    refine st101 _ ?_
    show Steps p.tables e below (T101.setTop (mkF m 11 #[.val (.ref t), .val (.int (0 : Int32)), .val (.int (19 : Int32)), .val (.ref d), .val (.int (0 : Int32))] [])) _
    exact X101.returnOut hx Bd.returns (hb hby dLG_11) hr
  · show QN Z d kd W pp h0 n0 _ T101.heap _
    exact ⟨rfl, N101, K101, Vq101⟩
theorem dSG_0 : decode jdk_42_method_61_code 0 = .ok (.iload_n 1, 1) := by decide +kernel
theorem dSG_1 : decode jdk_42_method_61_code 1 = .ok (.iload_n 2, 1) := by decide +kernel
theorem dSG_2 : decode jdk_42_method_61_code 2 = .ok (.aload_n 0, 1) := by decide +kernel
theorem dSG_3 : decode jdk_42_method_61_code 3 = .ok (.invokevirtual 505, 3) := by decide +kernel
theorem dSG_6 : decode jdk_42_method_61_code 6 = .ok (.invokestatic 521, 3) := by decide +kernel
theorem dSG_9 : decode jdk_42_method_61_code 9 = .ok (.iload 4, 2) := by decide +kernel
theorem dSG_11 : decode jdk_42_method_61_code 11 = .ok (.iload_n 2, 1) := by decide +kernel
theorem dSG_12 : decode jdk_42_method_61_code 12 = .ok (.iload_n 1, 1) := by decide +kernel
theorem dSG_13 : decode jdk_42_method_61_code 13 = .ok (.isub, 1) := by decide +kernel
theorem dSG_14 : decode jdk_42_method_61_code 14 = .ok (.aload_n 3, 1) := by decide +kernel
theorem dSG_15 : decode jdk_42_method_61_code 15 = .ok (.arraylength, 1) := by decide +kernel
theorem dSG_16 : decode jdk_42_method_61_code 16 = .ok (.invokestatic 34, 3) := by decide +kernel
theorem dSG_19 : decode jdk_42_method_61_code 19 = .ok (.pop, 1) := by decide +kernel
theorem dSG_20 : decode jdk_42_method_61_code 20 = .ok (.aload_n 0, 1) := by decide +kernel
theorem dSG_21 : decode jdk_42_method_61_code 21 = .ok (.invokevirtual 492, 3) := by decide +kernel
theorem dSG_24 : decode jdk_42_method_61_code 24 = .ok (.ifCond .eq 18, 3) := by decide +kernel
theorem dSG_27 : decode jdk_42_method_61_code 27 = .ok (.aload_n 0, 1) := by decide +kernel
theorem dSG_28 : decode jdk_42_method_61_code 28 = .ok (.getfield 9, 3) := by decide +kernel
theorem dSG_31 : decode jdk_42_method_61_code 31 = .ok (.iload_n 1, 1) := by decide +kernel
theorem dSG_32 : decode jdk_42_method_61_code 32 = .ok (.iload_n 2, 1) := by decide +kernel
theorem dSG_33 : decode jdk_42_method_61_code 33 = .ok (.aload_n 3, 1) := by decide +kernel
theorem dSG_34 : decode jdk_42_method_61_code 34 = .ok (.iload 4, 2) := by decide +kernel
theorem dSG_36 : decode jdk_42_method_61_code 36 = .ok (.invokestatic 525, 3) := by decide +kernel
theorem dSG_39 : decode jdk_42_method_61_code 39 = .ok (.goto 15, 3) := by decide +kernel
theorem dSG_54 : decode jdk_42_method_61_code 54 = .ok (.return_, 1) := by decide +kernel
theorem efSG (m : MethodId) (x0 : Addr) (x1 : Int32) (x2 : Int32) (x3 : Addr) (x4 : Int32) : entryFrame m #[(.ref x0), (.int x1), (.int x2), (.ref x3), (.int x4)] 5 = mkF m 0 #[.val (.ref x0), .val (.int x1), .val (.int x2), .val (.ref x3), .val (.int x4)] [] := by first | (simp [entryFrame, mkF, argsToLocals, Value.category]; done) | rfl
set_option maxRecDepth 65536 in
set_option maxHeartbeats 40000000 in
theorem rmSG (l : Launch) (Z : State) (a0 : Array Value) (hw : ∀ d ∈ tables_1, d.before a0 Z = true) (ws : List Jvm.Cond) (W pp : Nat) (x t d : Addr) (kt kd : ClassId) (G1 : Int32) (fm : Value) (h0 : Heap) (n0 : Nat) (Ex : Exa Z h0 x "java/lang/String") (Fv : Fld Z h0 x "java/lang/String" "value" "[B" (.ref t)) (FC : Fld Z h0 x "java/lang/String" "coder" "B" (.int (0 : Int32))) (ntd : t ≠ d) (g_d : n0 ≤ d) (VS : Arv Z h0 t kt .byte (19 : Int32) (((own_cs W pp).map (fun c => c.toInt8.toInt32)).map Value.int) (.int (0 : Int32))) (VD : Arv Z h0 d kd .char (128 : Int32) [] (.int (0 : Int32))) (S2 : Sta Z h0 "java/lang/String" "COMPACT_STRINGS" "Z" (.int G1)) (P5 : ¬ (G1 = (0 : Int32))) (S4 : Sta Z h0 "jdk/internal/util/Preconditions" "SIOOBE_FORMATTER" "Ljava/util/function/BiFunction;" fm) (rfm : fm.isRef = true) :
    MetFree l (⟨"java/lang/String", "getChars", "(II[CI)V"⟩ : MethodName) (head1 (Jvm.Cond.code (⟨"java/lang/String", "getChars", "(II[CI)V"⟩ : MethodName) jdk_42_method_61_code 5 none :: ws) ({ frames := 2, cells := 0, slots := 0, locals := 33 } : Room)) (fun as_ U => as_ = #[(.ref x), (.int (0 : Int32)), (.int (19 : Int32)), (.ref d), (.int (0 : Int32))] ∧ Z.Warmed39 U.vm ∧ U.heap = h0) (fun _ _ _ _ _ => True) (fun _ U o U' => ∃ v L, o = .returned v ∧ QN Z d kd W pp h0 n0 v U'.heap L ∧ FrameEnd U o U' L ({ frames := 2, cells := 0, slots := 0, locals := 33 } : Room).cells ({ frames := 2, cells := 0, slots := 0, locals := 33 } : Room).slots) := by
  refine MetFree.of_bodySF (plainFor_of_name pnST) hisR ?_
  intro p e s m args below meth c s₁ Bd hml0 hP hK
  obtain ⟨rfl, hZ, hh⟩ := hP
  have hx := Bd.exec
  have hby := Bd.bytes
  have hml : c.maxLocals = 5 := hml0
  have hown : s.vm.findClass "java/lang/String" = some m.cls := findClass_of_methodNamed Bd.named
  have hnm := (name_of_methodNamed Bd.named Bd.method).1
  have X0 : Stand p l e ({ frames := 2, cells := 0, slots := 0, locals := 33 } : Room) s m #[(.ref x), (.int (0 : Int32)), (.int (19 : Int32)), (.ref d), (.int (0 : Int32))] below meth c s₁ [] 0 0 := Stand.of_body Bd
  have e0 : s₁.heap = h0 := by rw [← hh, Bd.state]; rfl
  have N0 := Fr.nil n0
  have go0 : ∀ tg_, Steps p.tables e below (s₁.setTop (mkF m 0 #[.val (.ref x), .val (.int (0 : Int32)), .val (.int (19 : Int32)), .val (.ref d), .val (.int (0 : Int32))] [])) tg_ → Steps p.tables e below (s₁.setTop (entryFrame m #[(.ref x), (.int (0 : Int32)), (.int (19 : Int32)), (.ref d), (.int (0 : Int32))] 5)) tg_ := fun tg_ k => castTop (efSG m x (0 : Int32) (19 : Int32) d (0 : Int32)) k
  have hln : ∀ d ∈ StrChars.Road.wordsLen, d.before a0 Z = true := fun d hd => hw d ((by decide +kernel : ∀ d ∈ StrChars.Road.wordsLen, d ∈ tables_1) d hd)
  have hcd : StrChars.Road.CodA (own_cs W pp) 0 (19 : Int32) (((own_cs W pp).map (fun c => c.toInt8.toInt32)).map Value.int) := StrChars.Road.codOf (n := 19) (own_cs_len W pp) (fun c hc => (own_cs_rng c hc).2)
  have hbd := own_up _ (own_cs_rng (W := W) (pp := pp))
  obtain ⟨cq101, kq101, q101a, q101b, q101c⟩ := isOf hZ e0 Ex
  obtain ⟨_, _, ⟨T101, L101, kk101, nn101⟩, -, X101, ⟨Lc101, hQ101, l101, y101, z101⟩, st101⟩ := X0.virtualBack hx (y := (⟨"java/lang/String", "length", "()I"⟩ : MethodName)) (z := (⟨"java/lang/String", "length", "()I"⟩ : MethodName)) hown (mvT hZ (hw _ (List.mem_of_getElem? (i := 98) rfl))) (mvT hZ (hw _ (List.mem_of_getElem? (i := 82) rfl))) (notFace_of_selects (args := #[]) (mvT hZ (hw _ (List.mem_of_getElem? (i := 84) rfl)))) (mvT hZ (hw _ (List.mem_of_getElem? (i := 84) rfl))) (mvT hZ (hw _ (List.mem_of_getElem? (i := 83) rfl))) (by decide) (StrChars.Road.lenW (W := 2) hZ hln (kI := 4) (hw _ (List.mem_of_getElem? (i := 46) rfl)) Ex Fv FC VS hcd hbd S2 P5 (by rw [own_cs_len]; decide) (by decide) (by decide)) q101a q101c (g := (mkF m 3 #[.val (.ref x), .val (.int (0 : Int32)), .val (.int (19 : Int32)), .val (.ref d), .val (.int (0 : Int32))] [(.ref x), (.int (19 : Int32)), (.int (0 : Int32))])) rfl (by rw [hml]; rfl) (Steps.refl _) (argsL := []) (rest := [(.int (19 : Int32)), (.int (0 : Int32))]) (lenOf pd___I rfl) rfl (by show 2 * 0 + _ ≤ _; exact Nat.le_of_eq rfl) (hb hby dSG_3) (fun _ _ => ⟨rfl, e0, Nat.le_of_ble_eq_true rfl, Nat.le_of_ble_eq_true rfl⟩)
  dsimp only [Pt.U, Pt.locs, Pt.cells, Pt.slots] at X101 l101 y101 z101 st101 hQ101
  subst l101 y101 z101
  obtain ⟨rfl, rfl, e101⟩ := hQ101
  have Nq101 : Fr n0 ([] : List Loc) := Fr.nil n0
  have N101 := Fr.app N0 Nq101
  obtain ⟨_, _, ⟨T102, L102, kk102, nn102⟩, -, X102, ⟨Lc102, hQ102, l102, y102, z102⟩, st102⟩ := Jvm.LawKit.callS X101 hx (y := (⟨"java/lang/String", "checkBoundsBeginEnd", "(III)V"⟩ : MethodName)) hown (mvT hZ (hw _ (List.mem_of_getElem? (i := 99) rfl))) (mvT hZ (hw _ (List.mem_of_getElem? (i := 100) rfl))) (mvT hZ (hw _ (List.mem_of_getElem? (i := 47) rfl))) (mvT hZ (hw _ (List.mem_of_getElem? (i := 101) rfl))) (by decide) (backOf (W := 0) (rmBE l Z a0 hw [] fm h0 n0 S4 rfm) hZ (hw _ (List.mem_of_getElem? (i := 101) rfl)) (hw _ (List.mem_of_getElem? (i := 47) rfl)) (by decide) (by decide)) (g := (mkF m 6 #[.val (.ref x), .val (.int (0 : Int32)), .val (.int (19 : Int32)), .val (.ref d), .val (.int (0 : Int32))] [(.int (19 : Int32)), (.int (19 : Int32)), (.int (0 : Int32))])) rfl (by rw [hml]; rfl) (argsL := [(.int (0 : Int32)), (.int (19 : Int32)), (.int (19 : Int32))]) (rest := []) (lenOf pd__III_V rfl) rfl (by show 2 * 0 + _ ≤ _; exact Nat.le_of_eq rfl) (hb hby dSG_6) (fun _ _ => ⟨rfl, e101, Nat.le_of_ble_eq_true rfl, Nat.le_of_ble_eq_true rfl⟩)
  dsimp only [Pt.U, Pt.locs, Pt.cells, Pt.slots] at X102 l102 y102 z102 st102 hQ102
  subst l102 y102 z102
  obtain ⟨rfl, Nq102, e102⟩ := hQ102
  have N102 := Fr.app N101 Nq102
  obtain ⟨cl103, Ar103, q103, S103, M103, Hh103, G103⟩ := id VD
  obtain ⟨_, _, ⟨T104, L104, kk104, nn104⟩, -, X104, ⟨Lc104, hQ104, l104, y104, z104⟩, st104⟩ := Jvm.LawKit.callS X102 hx (y := (⟨"java/lang/String", "checkBoundsOffCount", "(III)I"⟩ : MethodName)) hown (mvT hZ (hw _ (List.mem_of_getElem? (i := 107) rfl))) (mvT hZ (hw _ (List.mem_of_getElem? (i := 108) rfl))) (mvT hZ (hw _ (List.mem_of_getElem? (i := 47) rfl))) (mvT hZ (hw _ (List.mem_of_getElem? (i := 109) rfl))) (by decide) (backOf (W := 0) (rmOC l Z a0 hw [] fm h0 n0 S4 rfm) hZ (hw _ (List.mem_of_getElem? (i := 109) rfl)) (hw _ (List.mem_of_getElem? (i := 47) rfl)) (by decide) (by decide)) (g := (mkF m 16 #[.val (.ref x), .val (.int (0 : Int32)), .val (.int (19 : Int32)), .val (.ref d), .val (.int (0 : Int32))] [(.int (128 : Int32)), (.int (19 : Int32)), (.int (0 : Int32))])) rfl (by rw [hml]; rfl) (argsL := [(.int (0 : Int32)), (.int (19 : Int32)), (.int (128 : Int32))]) (rest := []) (lenOf pd__III_I rfl) rfl (by show 2 * 0 + _ ≤ _; exact Nat.le_of_eq rfl) (hb hby dSG_16) (fun _ _ => ⟨rfl, e102, Nat.le_of_ble_eq_true rfl, Nat.le_of_ble_eq_true rfl⟩)
  dsimp only [Pt.U, Pt.locs, Pt.cells, Pt.slots] at X104 l104 y104 z104 st104 hQ104
  subst l104 y104 z104
  obtain ⟨rfl, Nq104, e104⟩ := hQ104
  have N104 := Fr.app N102 Nq104
  obtain ⟨cq105, kq105, q105a, q105b, q105c⟩ := isOf hZ e104 Ex
  obtain ⟨_, _, ⟨T105, L105, kk105, nn105⟩, -, X105, ⟨Lc105, hQ105, l105, y105, z105⟩, st105⟩ := X104.virtualBack hx (y := (⟨"java/lang/String", "isLatin1", "()Z"⟩ : MethodName)) (z := (⟨"java/lang/String", "isLatin1", "()Z"⟩ : MethodName)) hown (mvT hZ (hw _ (List.mem_of_getElem? (i := 113) rfl))) (mvT hZ (hw _ (List.mem_of_getElem? (i := 114) rfl))) (notFace_of_selects (args := #[]) (mvT hZ (hw _ (List.mem_of_getElem? (i := 116) rfl)))) (mvT hZ (hw _ (List.mem_of_getElem? (i := 116) rfl))) (mvT hZ (hw _ (List.mem_of_getElem? (i := 115) rfl))) (by decide) (backOf (W := 0) (rmIL l Z a0 hw [] x G1 h0 n0 S2 P5 FC) hZ (hw _ (List.mem_of_getElem? (i := 117) rfl)) (hw _ (List.mem_of_getElem? (i := 47) rfl)) (by decide) (by decide)) q105a q105c (g := (mkF m 21 #[.val (.ref x), .val (.int (0 : Int32)), .val (.int (19 : Int32)), .val (.ref d), .val (.int (0 : Int32))] [(.ref x)])) rfl (by rw [hml]; rfl) (Steps.refl _) (argsL := []) (rest := []) (lenOf pd___Z rfl) rfl (by show 2 * 0 + _ ≤ _; exact Nat.le_of_eq rfl) (hb hby dSG_21) (fun _ _ => ⟨rfl, e104, Nat.le_of_ble_eq_true rfl, Nat.le_of_ble_eq_true rfl⟩)
  dsimp only [Pt.U, Pt.locs, Pt.cells, Pt.slots] at X105 l105 y105 z105 st105 hQ105
  subst l105 y105 z105
  obtain ⟨rfl, Nq105, e105⟩ := hQ105
  have N105 := Fr.app N104 Nq105
  obtain ⟨T106, X106, e106, st106⟩ := getF X105 hx hZ hown (host := "") (Or.inl (hw _ (List.mem_of_getElem? (i := 70) rfl))) Via.refl e105 Fv (g := (mkF m 28 #[.val (.ref x), .val (.int (0 : Int32)), .val (.int (19 : Int32)), .val (.ref d), .val (.int (0 : Int32))] [(.ref x)])) rfl rfl (hb hby dSG_28)
  obtain ⟨_, _, ⟨T107, L107, kk107, nn107⟩, -, X107, ⟨Lc107, hQ107, l107, y107, z107⟩, st107⟩ := Jvm.LawKit.callS X106 hx (y := (⟨"java/lang/StringLatin1", "getChars", "([BII[CI)V"⟩ : MethodName)) hown (mvT hZ (hw _ (List.mem_of_getElem? (i := 118) rfl))) (mvT hZ (hw _ (List.mem_of_getElem? (i := 119) rfl))) (mvT hZ (hw _ (List.mem_of_getElem? (i := 120) rfl))) (mvT hZ (hw _ (List.mem_of_getElem? (i := 121) rfl))) (by decide) (backOf (W := 0) (rmLG l Z a0 hw [] W pp t d kt kd h0 n0 ntd g_d VS VD) hZ (hw _ (List.mem_of_getElem? (i := 121) rfl)) (hw _ (List.mem_of_getElem? (i := 120) rfl)) (by decide) (by decide)) (g := (mkF m 36 #[.val (.ref x), .val (.int (0 : Int32)), .val (.int (19 : Int32)), .val (.ref d), .val (.int (0 : Int32))] [(.int (0 : Int32)), (.ref d), (.int (19 : Int32)), (.int (0 : Int32)), (.ref t)])) rfl (by rw [hml]; rfl) (argsL := [(.ref t), (.int (0 : Int32)), (.int (19 : Int32)), (.ref d), (.int (0 : Int32))]) (rest := []) (lenOf pd___BII_CI_V rfl) rfl (by show 2 * 0 + _ ≤ _; exact Nat.le_of_eq rfl) (hb hby dSG_36) (fun _ _ => ⟨rfl, e106, Nat.le_of_ble_eq_true rfl, Nat.le_of_ble_eq_true rfl⟩)
  dsimp only [Pt.U, Pt.locs, Pt.cells, Pt.slots] at X107 l107 y107 z107 st107 hQ107
  subst l107 y107 z107
  obtain ⟨rfl, Nq107, K107, Vq107⟩ := hQ107
  have N107 := Fr.app N105 Nq107
  obtain ⟨fs, hr, hrun, hended, hW, hsame⟩ := X107.leave (v := none) (fun _ => rfl)
  refine ⟨_, _, go0 _ ?_, hrun, hended, _, _, rfl, ?_, ⟨_, rfl⟩, hW, hsame.mono (by decide) (by decide)⟩
  · show Steps p.tables e below (s₁.setTop (mkF m 0 #[.val (.ref x), .val (.int (0 : Int32)), .val (.int (19 : Int32)), .val (.ref d), .val (.int (0 : Int32))] [])) _
    refine XS.iloadN X0.here hx rfl (hb hby dSG_0) rfl ?_
    show Steps p.tables e below (s₁.setTop (mkF m 1 #[.val (.ref x), .val (.int (0 : Int32)), .val (.int (19 : Int32)), .val (.ref d), .val (.int (0 : Int32))] [(.int (0 : Int32))])) _
    refine XS.iloadN X0.here hx rfl (hb hby dSG_1) rfl ?_
    show Steps p.tables e below (s₁.setTop (mkF m 2 #[.val (.ref x), .val (.int (0 : Int32)), .val (.int (19 : Int32)), .val (.ref d), .val (.int (0 : Int32))] [(.int (19 : Int32)), (.int (0 : Int32))])) _
    refine XS.aloadN X0.here hx rfl (hb hby dSG_2) rfl rfl ?_
    show Steps p.tables e below (s₁.setTop (mkF m 3 #[.val (.ref x), .val (.int (0 : Int32)), .val (.int (19 : Int32)), .val (.ref d), .val (.int (0 : Int32))] [(.ref x), (.int (19 : Int32)), (.int (0 : Int32))])) _
    refine st101.trans ?_
    show Steps p.tables e below (T101.setTop (mkF m 6 #[.val (.ref x), .val (.int (0 : Int32)), .val (.int (19 : Int32)), .val (.ref d), .val (.int (0 : Int32))] [(.int (19 : Int32)), (.int (19 : Int32)), (.int (0 : Int32))])) _
    refine st102 _ ?_
    show Steps p.tables e below (T102.setTop (mkF m 9 #[.val (.ref x), .val (.int (0 : Int32)), .val (.int (19 : Int32)), .val (.ref d), .val (.int (0 : Int32))] [])) _
    refine XS.iload X102.here hx rfl (hb hby dSG_9) rfl ?_
    show Steps p.tables e below (T102.setTop (mkF m 11 #[.val (.ref x), .val (.int (0 : Int32)), .val (.int (19 : Int32)), .val (.ref d), .val (.int (0 : Int32))] [(.int (0 : Int32))])) _
    refine XS.iloadN X102.here hx rfl (hb hby dSG_11) rfl ?_
    show Steps p.tables e below (T102.setTop (mkF m 12 #[.val (.ref x), .val (.int (0 : Int32)), .val (.int (19 : Int32)), .val (.ref d), .val (.int (0 : Int32))] [(.int (19 : Int32)), (.int (0 : Int32))])) _
    refine XS.iloadN X102.here hx rfl (hb hby dSG_12) rfl ?_
    show Steps p.tables e below (T102.setTop (mkF m 13 #[.val (.ref x), .val (.int (0 : Int32)), .val (.int (19 : Int32)), .val (.ref d), .val (.int (0 : Int32))] [(.int (0 : Int32)), (.int (19 : Int32)), (.int (0 : Int32))])) _
    refine XS.isub X102.here hx rfl (hb hby dSG_13) rfl ?_
    show Steps p.tables e below (T102.setTop (mkF m 14 #[.val (.ref x), .val (.int (0 : Int32)), .val (.int (19 : Int32)), .val (.ref d), .val (.int (0 : Int32))] [(.int ((19 : Int32) - (0 : Int32))), (.int (0 : Int32))])) _
    refine XS.aloadN X102.here hx rfl (hb hby dSG_14) rfl rfl ?_
    show Steps p.tables e below (T102.setTop (mkF m 15 #[.val (.ref x), .val (.int (0 : Int32)), .val (.int (19 : Int32)), .val (.ref d), .val (.int (0 : Int32))] [(.ref d), (.int (19 : Int32)), (.int (0 : Int32))])) _
    refine X102.arraylength hx (by rw [e102]; exact Ar103.1) (State.isArrayOf_alike hZ.alike Ar103.2.1) (g := (mkF m 15 #[.val (.ref x), .val (.int (0 : Int32)), .val (.int (19 : Int32)), .val (.ref d), .val (.int (0 : Int32))] [(.ref d), (.int (19 : Int32)), (.int (0 : Int32))])) rfl rfl (hb hby dSG_15) _ ?_
    rw [len_of S103 M103]
    show Steps p.tables e below (T102.setTop (mkF m 16 #[.val (.ref x), .val (.int (0 : Int32)), .val (.int (19 : Int32)), .val (.ref d), .val (.int (0 : Int32))] [(.int (128 : Int32)), (.int (19 : Int32)), (.int (0 : Int32))])) _
    refine st104 _ ?_
    show Steps p.tables e below (T104.setTop (mkF m 19 #[.val (.ref x), .val (.int (0 : Int32)), .val (.int (19 : Int32)), .val (.ref d), .val (.int (0 : Int32))] [(.int (0 : Int32))])) _
    refine XS.pop X104.here hx rfl (hb hby dSG_19) rfl rfl ?_
    show Steps p.tables e below (T104.setTop (mkF m 20 #[.val (.ref x), .val (.int (0 : Int32)), .val (.int (19 : Int32)), .val (.ref d), .val (.int (0 : Int32))] [])) _
    refine XS.aloadN X104.here hx rfl (hb hby dSG_20) rfl rfl ?_
    show Steps p.tables e below (T104.setTop (mkF m 21 #[.val (.ref x), .val (.int (0 : Int32)), .val (.int (19 : Int32)), .val (.ref d), .val (.int (0 : Int32))] [(.ref x)])) _
    refine st105.trans ?_
    show Steps p.tables e below (T105.setTop (mkF m 24 #[.val (.ref x), .val (.int (0 : Int32)), .val (.int (19 : Int32)), .val (.ref d), .val (.int (0 : Int32))] [(.int (1 : Int32))])) _
    refine XS.ifNo X105.here hx rfl (hb hby dSG_24) rfl ((if0 _ _).trans (feq ((by decide) : ¬ ((1 : Int32) = (0 : Int32)))).1) ?_
    show Steps p.tables e below (T105.setTop (mkF m 27 #[.val (.ref x), .val (.int (0 : Int32)), .val (.int (19 : Int32)), .val (.ref d), .val (.int (0 : Int32))] [])) _
    refine XS.aloadN X105.here hx rfl (hb hby dSG_27) rfl rfl ?_
    show Steps p.tables e below (T105.setTop (mkF m 28 #[.val (.ref x), .val (.int (0 : Int32)), .val (.int (19 : Int32)), .val (.ref d), .val (.int (0 : Int32))] [(.ref x)])) _
    refine st106 _ ?_
    show Steps p.tables e below (T106.setTop (mkF m 31 #[.val (.ref x), .val (.int (0 : Int32)), .val (.int (19 : Int32)), .val (.ref d), .val (.int (0 : Int32))] [(.ref t)])) _
    refine XS.iloadN X106.here hx rfl (hb hby dSG_31) rfl ?_
    show Steps p.tables e below (T106.setTop (mkF m 32 #[.val (.ref x), .val (.int (0 : Int32)), .val (.int (19 : Int32)), .val (.ref d), .val (.int (0 : Int32))] [(.int (0 : Int32)), (.ref t)])) _
    refine XS.iloadN X106.here hx rfl (hb hby dSG_32) rfl ?_
    show Steps p.tables e below (T106.setTop (mkF m 33 #[.val (.ref x), .val (.int (0 : Int32)), .val (.int (19 : Int32)), .val (.ref d), .val (.int (0 : Int32))] [(.int (19 : Int32)), (.int (0 : Int32)), (.ref t)])) _
    refine XS.aloadN X106.here hx rfl (hb hby dSG_33) rfl rfl ?_
    show Steps p.tables e below (T106.setTop (mkF m 34 #[.val (.ref x), .val (.int (0 : Int32)), .val (.int (19 : Int32)), .val (.ref d), .val (.int (0 : Int32))] [(.ref d), (.int (19 : Int32)), (.int (0 : Int32)), (.ref t)])) _
    refine XS.iload X106.here hx rfl (hb hby dSG_34) rfl ?_
    show Steps p.tables e below (T106.setTop (mkF m 36 #[.val (.ref x), .val (.int (0 : Int32)), .val (.int (19 : Int32)), .val (.ref d), .val (.int (0 : Int32))] [(.int (0 : Int32)), (.ref d), (.int (19 : Int32)), (.int (0 : Int32)), (.ref t)])) _
    refine st107 _ ?_
    show Steps p.tables e below (T107.setTop (mkF m 39 #[.val (.ref x), .val (.int (0 : Int32)), .val (.int (19 : Int32)), .val (.ref d), .val (.int (0 : Int32))] [])) _
    refine XS.goto X107.here hx rfl (pc0 := 39) (pc' := 54) rfl (hb hby dSG_39) (by decide) (by decide) ?_
    show Steps p.tables e below (T107.setTop (mkF m 54 #[.val (.ref x), .val (.int (0 : Int32)), .val (.int (19 : Int32)), .val (.ref d), .val (.int (0 : Int32))] [])) _
    exact X107.returnOut hx Bd.returns (hb hby dSG_54) hr
  · show QN Z d kd W pp h0 n0 _ T107.heap _
    exact ⟨rfl, N107, K107, Vq107⟩
theorem own_FS_keep {Z : State} {h h' : Heap} {a ln st en : Addr} {kl ks ke : ClassId} {cs : List Value} {len cnt : Int32} {ss es : List Value} {ws : List Addr} (F : own_FS Z h a ln st en kl ks ke cs len cnt ss es) (K : Keep h h' ws) (n1 : a ∉ ws) (n2 : ln ∉ ws) (n3 : st ∉ ws) (n4 : en ∉ ws) : own_FS Z h' a ln st en kl ks ke cs len cnt ss es := by
  obtain ⟨f1, f2, f3, f4, f5, f6, f7, f8, f9⟩ := F
  exact ⟨f1.keep K, f2.keep K n1, f3.keep K n1, f4.keep K n1, f5.keep K n1, f6.keep K n1, f7.keep K n2, f8.keep K n3, f9.keep K n4⟩
theorem own_app_set {α : Type} (xs : List α) (d x : α) (q : Nat) (h : xs.length = q) : (xs ++ List.replicate 1 d).set q x = xs ++ [x] := by
  subst h
  rw [List.set_append_right _ _ (Nat.le_refl _)]; simp
theorem own_narch (W pp i : Nat) : nar .char (Int32.ofNat (own_ch W pp i)) = Int32.ofNat (own_ch W pp i) := own_narc (by have := own_ch_rng W pp i; omega)
theorem dTK_0 : decode prog_224_method_4_code 0 = .ok (.aload_n 0, 1) := by decide +kernel
theorem dTK_1 : decode prog_224_method_4_code 1 = .ok (.aload_n 1, 1) := by decide +kernel
theorem dTK_2 : decode prog_224_method_4_code 2 = .ok (.invokevirtual 36, 3) := by decide +kernel
theorem dTK_5 : decode prog_224_method_4_code 5 = .ok (.putfield 24, 3) := by decide +kernel
theorem dTK_8 : decode prog_224_method_4_code 8 = .ok (.aload_n 0, 1) := by decide +kernel
theorem dTK_9 : decode prog_224_method_4_code 9 = .ok (.getfield 9, 3) := by decide +kernel
theorem dTK_12 : decode prog_224_method_4_code 12 = .ok (.arraylength, 1) := by decide +kernel
theorem dTK_13 : decode prog_224_method_4_code 13 = .ok (.aload_n 0, 1) := by decide +kernel
theorem dTK_14 : decode prog_224_method_4_code 14 = .ok (.getfield 24, 3) := by decide +kernel
theorem dTK_17 : decode prog_224_method_4_code 17 = .ok (.if_icmp .ge 23, 3) := by decide +kernel
theorem dTK_40 : decode prog_224_method_4_code 40 = .ok (.aload_n 1, 1) := by decide +kernel
theorem dTK_41 : decode prog_224_method_4_code 41 = .ok (.iconst 0, 1) := by decide +kernel
theorem dTK_42 : decode prog_224_method_4_code 42 = .ok (.aload_n 0, 1) := by decide +kernel
theorem dTK_43 : decode prog_224_method_4_code 43 = .ok (.getfield 24, 3) := by decide +kernel
theorem dTK_46 : decode prog_224_method_4_code 46 = .ok (.aload_n 0, 1) := by decide +kernel
theorem dTK_47 : decode prog_224_method_4_code 47 = .ok (.getfield 9, 3) := by decide +kernel
theorem dTK_50 : decode prog_224_method_4_code 50 = .ok (.iconst 0, 1) := by decide +kernel
theorem dTK_51 : decode prog_224_method_4_code 51 = .ok (.invokevirtual 47, 3) := by decide +kernel
theorem dTK_54 : decode prog_224_method_4_code 54 = .ok (.aload_n 0, 1) := by decide +kernel
theorem dTK_55 : decode prog_224_method_4_code 55 = .ok (.iconst 0, 1) := by decide +kernel
theorem dTK_56 : decode prog_224_method_4_code 56 = .ok (.putfield 51, 3) := by decide +kernel
theorem dTK_59 : decode prog_224_method_4_code 59 = .ok (.return_, 1) := by decide +kernel
theorem efTK (m : MethodId) (x0 : Addr) (x1 : Addr) : entryFrame m #[(.ref x0), (.ref x1)] 2 = mkF m 0 #[.val (.ref x0), .val (.ref x1)] [] := by first | (simp [entryFrame, mkF, argsToLocals, Value.category]; done) | rfl
def QTK (Z : State) (W pp : Nat) (a ln st en : Addr) (kl ks ke : ClassId) (ss es : List Value) (h0 : Heap) (n0 : Nat) (v : Option Value) (h : Heap) (L : List Loc) : Prop := v = none ∧ Fr n0 L ∧ Keep h0 h [a, ln] ∧ own_FS Z h a ln st en kl ks ke ((own_cs W pp).map Value.int) 19 0 ss es
set_option maxRecDepth 65536 in
set_option maxHeartbeats 40000000 in
theorem rmTK (l : Launch) (Z : State) (a0 : Array Value) (hw : ∀ d ∈ tables_1, d.before a0 Z = true) (ws : List Jvm.Cond) (W pp : Nat) (a ln st en : Addr) (kl ks ke : ClassId) (len0 cnt0 : Int32) (ss es : List Value) (x t : Addr) (kt : ClassId) (G1 : Int32) (fm : Value) (h0 : Heap) (n0 : Nat) (FS0 : own_FS Z h0 a ln st en kl ks ke [] len0 cnt0 ss es) (DI : own_Dist a ln st en) (g_a : n0 ≤ a) (g_ln : n0 ≤ ln) (g_st : n0 ≤ st) (g_en : n0 ≤ en) (nxa : x ≠ a) (nta : t ≠ a) (ntd : t ≠ ln) (Ex : Exa Z h0 x "java/lang/String") (Fv : Fld Z h0 x "java/lang/String" "value" "[B" (.ref t)) (FC : Fld Z h0 x "java/lang/String" "coder" "B" (.int (0 : Int32))) (VS : Arv Z h0 t kt .byte (19 : Int32) (((own_cs W pp).map (fun c => c.toInt8.toInt32)).map Value.int) (.int (0 : Int32))) (S2 : Sta Z h0 "java/lang/String" "COMPACT_STRINGS" "Z" (.int G1)) (P5 : ¬ (G1 = (0 : Int32))) (S4 : Sta Z h0 "jdk/internal/util/Preconditions" "SIOOBE_FORMATTER" "Ljava/util/function/BiFunction;" fm) (rfm : fm.isRef = true) :
    MetFree l (⟨"com/example/allotrope/allotrope/workload/Fields", "take", "(Ljava/lang/String;)V"⟩ : MethodName) (head1 (Jvm.Cond.code (⟨"com/example/allotrope/allotrope/workload/Fields", "take", "(Ljava/lang/String;)V"⟩ : MethodName) prog_224_method_4_code 2 none :: ws) ({ frames := 3, cells := 0, slots := 0, locals := 49 } : Room)) (fun as_ U => as_ = #[(.ref a), (.ref x)] ∧ Z.Warmed39 U.vm ∧ U.heap = h0) (fun _ _ _ _ _ => True) (fun _ U o U' => ∃ v L, o = .returned v ∧ QTK Z W pp a ln st en kl ks ke ss es h0 n0 v U'.heap L ∧ FrameEnd U o U' L ({ frames := 3, cells := 0, slots := 0, locals := 49 } : Room).cells ({ frames := 3, cells := 0, slots := 0, locals := 49 } : Room).slots) := by
  refine MetFree.of_bodySF (plainFor_of_name pnF) hisR ?_
  intro p e s m args below meth c s₁ Bd hml0 hP hK
  obtain ⟨rfl, hZ, hh⟩ := hP
  have hx := Bd.exec
  have hby := Bd.bytes
  have hml : c.maxLocals = 2 := hml0
  have hown : s.vm.findClass "com/example/allotrope/allotrope/workload/Fields" = some m.cls := findClass_of_methodNamed Bd.named
  have hnm := (name_of_methodNamed Bd.named Bd.method).1
  have X0 : Stand p l e ({ frames := 3, cells := 0, slots := 0, locals := 49 } : Room) s m #[(.ref a), (.ref x)] below meth c s₁ [] 0 0 := Stand.of_body Bd
  have e0 : s₁.heap = h0 := by rw [← hh, Bd.state]; rfl
  have N0 := Fr.nil n0
  have go0 : ∀ tg_, Steps p.tables e below (s₁.setTop (mkF m 0 #[.val (.ref a), .val (.ref x)] [])) tg_ → Steps p.tables e below (s₁.setTop (entryFrame m #[(.ref a), (.ref x)] 2)) tg_ := fun tg_ k => castTop (efTK m a x) k
  obtain ⟨E_a, F_line_a, F_length_a, F_count_a, F_starts_a, F_ends_a, V_ln, V_st, V_en⟩ := id FS0
  obtain ⟨d1, d2, d3, d4, d5, d6⟩ := id DI
  have KH0 : Keep h0 h0 [a, ln] := Keep.refl h0 [a, ln]
  have hln : ∀ d ∈ StrChars.Road.wordsLen, d.before a0 Z = true := fun d hd => hw d ((by decide +kernel : ∀ d ∈ StrChars.Road.wordsLen, d ∈ tables_1) d hd)
  have hcd : StrChars.Road.CodA (own_cs W pp) 0 (19 : Int32) (((own_cs W pp).map (fun c => c.toInt8.toInt32)).map Value.int) := StrChars.Road.codOf (n := 19) (own_cs_len W pp) (fun c hc => (own_cs_rng c hc).2)
  have hbd := own_up _ (own_cs_rng (W := W) (pp := pp))
  obtain ⟨cq101, kq101, q101a, q101b, q101c⟩ := isOf hZ e0 Ex
  obtain ⟨_, _, ⟨T101, L101, kk101, nn101⟩, -, X101, ⟨Lc101, hQ101, l101, y101, z101⟩, st101⟩ := X0.virtualBack hx (y := (⟨"java/lang/String", "length", "()I"⟩ : MethodName)) (z := (⟨"java/lang/String", "length", "()I"⟩ : MethodName)) hown (mvT hZ (hw _ (List.mem_of_getElem? (i := 81) rfl))) (mvT hZ (hw _ (List.mem_of_getElem? (i := 82) rfl))) (notFace_of_selects (args := #[]) (mvT hZ (hw _ (List.mem_of_getElem? (i := 84) rfl)))) (mvT hZ (hw _ (List.mem_of_getElem? (i := 84) rfl))) (mvT hZ (hw _ (List.mem_of_getElem? (i := 83) rfl))) (by decide) (StrChars.Road.lenW (W := 1) hZ hln (kI := 4) (hw _ (List.mem_of_getElem? (i := 46) rfl)) Ex Fv FC VS hcd hbd S2 P5 (by rw [own_cs_len]; decide) (by decide) (by decide)) q101a q101c (g := (mkF m 2 #[.val (.ref a), .val (.ref x)] [(.ref x), (.ref a)])) rfl (by rw [hml]; rfl) (Steps.refl _) (argsL := []) (rest := [(.ref a)]) (lenOf pd___I rfl) rfl (by show 2 * 0 + _ ≤ _; exact Nat.le_of_eq rfl) (hb hby dTK_2) (fun _ _ => ⟨rfl, e0, Nat.le_of_ble_eq_true rfl, Nat.le_of_ble_eq_true rfl⟩)
  dsimp only [Pt.U, Pt.locs, Pt.cells, Pt.slots] at X101 l101 y101 z101 st101 hQ101
  subst l101 y101 z101
  obtain ⟨rfl, rfl, e101⟩ := hQ101
  have Nq101 : Fr n0 ([] : List Loc) := Fr.nil n0
  have N101 := Fr.app N0 Nq101
  obtain ⟨T102, h102, X102, e102, W102, st102⟩ := putF X101 hx hZ hown (host := "") (Or.inl (hw _ (List.mem_of_getElem? (i := 91) rfl))) Via.refl e101 F_length_a E_a (Or.inl (hw _ (List.mem_of_getElem? (i := 92) rfl))) (hw _ (List.mem_of_getElem? (i := 30) rfl)) (ty := .int) (by decide) rfl rfl (g := (mkF m 5 #[.val (.ref a), .val (.ref x)] [(.int (19 : Int32)), (.ref a)])) rfl rfl (hb hby dTK_5)
  have Fw102 := F_length_a.same W102
  have K102 : Keep h0 h102 [a] := Keep.of_wr W102
  have KH103 : Keep h0 h102 [a, ln] := KH0.trans K102 (allS (Or.inl (List.mem_of_getElem? (i := 0) rfl)) all0)
  have N102 := Fr.snoc X102 N101 g_a
  have F_line_a_105 := (F_line_a.other W102 (Or.inr (slot_ne (Or.inl (hw _ (List.mem_of_getElem? (i := 39) rfl))) (Or.inl (hw _ (List.mem_of_getElem? (i := 92) rfl))) (by decide) (t := (.array .char)) (t' := .int) (by decide) (by decide))))
  obtain ⟨T104, X104, e104, st104⟩ := getF X102 hx hZ hown (host := "") (Or.inl (hw _ (List.mem_of_getElem? (i := 38) rfl))) Via.refl e102 F_line_a_105 (g := (mkF m 9 #[.val (.ref a), .val (.ref x)] [(.ref a)])) rfl rfl (hb hby dTK_9)
  have V_ln_106 := (V_ln.keep K102 (ninS (Ne.symm d1) nin0))
  obtain ⟨cl107, Ar107, q107, S107, M107, Hh107, G107⟩ := id V_ln_106
  obtain ⟨T108, X108, e108, st108⟩ := getF X104 hx hZ hown (host := "") (Or.inl (hw _ (List.mem_of_getElem? (i := 91) rfl))) Via.refl e104 Fw102 (g := (mkF m 14 #[.val (.ref a), .val (.ref x)] [(.ref a), (.int (128 : Int32))])) rfl rfl (hb hby dTK_14)
  obtain ⟨T109, X109, e109, st109⟩ := getF X108 hx hZ hown (host := "") (Or.inl (hw _ (List.mem_of_getElem? (i := 91) rfl))) Via.refl e108 Fw102 (g := (mkF m 43 #[.val (.ref a), .val (.ref x)] [(.ref a), (.int (0 : Int32)), (.ref x)])) rfl rfl (hb hby dTK_43)
  obtain ⟨T110, X110, e110, st110⟩ := getF X109 hx hZ hown (host := "") (Or.inl (hw _ (List.mem_of_getElem? (i := 38) rfl))) Via.refl e109 F_line_a_105 (g := (mkF m 47 #[.val (.ref a), .val (.ref x)] [(.ref a), (.int (19 : Int32)), (.int (0 : Int32)), (.ref x)])) rfl rfl (hb hby dTK_47)
  have S2w := S2.wr W102
  have S4w := S4.wr W102
  have Ex_111 := (Ex.keep K102)
  have Fv_112 := (Fv.keep K102 (ninS nxa nin0))
  have FC_113 := (FC.keep K102 (ninS nxa nin0))
  have VS_114 := (VS.keep K102 (ninS nta nin0))
  obtain ⟨cq115, kq115, q115a, q115b, q115c⟩ := isOf hZ e110 Ex_111
  obtain ⟨_, _, ⟨T115, L115, kk115, nn115⟩, -, X115, ⟨Lc115, hQ115, l115, y115, z115⟩, st115⟩ := X110.virtualBack hx (y := (⟨"java/lang/String", "getChars", "(II[CI)V"⟩ : MethodName)) (z := (⟨"java/lang/String", "getChars", "(II[CI)V"⟩ : MethodName)) hown (mvT hZ (hw _ (List.mem_of_getElem? (i := 93) rfl))) (mvT hZ (hw _ (List.mem_of_getElem? (i := 94) rfl))) (notFace_of_selects (args := #[]) (mvT hZ (hw _ (List.mem_of_getElem? (i := 96) rfl)))) (mvT hZ (hw _ (List.mem_of_getElem? (i := 96) rfl))) (mvT hZ (hw _ (List.mem_of_getElem? (i := 95) rfl))) (by decide) (backOf (W := 0) (rmSG l Z a0 hw [] W pp x t ln kt kl G1 fm h102 n0 Ex_111 Fv_112 FC_113 ntd g_ln VS_114 V_ln_106 S2w P5 S4w rfm) hZ (hw _ (List.mem_of_getElem? (i := 97) rfl)) (hw _ (List.mem_of_getElem? (i := 47) rfl)) (by decide) (by decide)) q115a q115c (g := (mkF m 51 #[.val (.ref a), .val (.ref x)] [(.int (0 : Int32)), (.ref ln), (.int (19 : Int32)), (.int (0 : Int32)), (.ref x)])) rfl (by rw [hml]; rfl) (Steps.refl _) (argsL := [(.int (0 : Int32)), (.int (19 : Int32)), (.ref ln), (.int (0 : Int32))]) (rest := []) (lenOf pd__II_CI_V rfl) rfl (by show 2 * 0 + _ ≤ _; exact Nat.le_of_eq rfl) (hb hby dTK_51) (fun _ _ => ⟨rfl, e110, Nat.le_of_ble_eq_true rfl, Nat.le_of_ble_eq_true rfl⟩)
  dsimp only [Pt.U, Pt.locs, Pt.cells, Pt.slots] at X115 l115 y115 z115 st115 hQ115
  subst l115 y115 z115
  obtain ⟨rfl, Nq115, K115, Vq115⟩ := hQ115
  have N115 := Fr.app N102 Nq115
  have KH116 : Keep h0 T115.heap [a, ln] := KH103.trans K115 (allS (Or.inl (List.mem_of_getElem? (i := 1) rfl)) all0)
  have F_count_a_118 := ((F_count_a.other W102 (Or.inr (slot_ne (Or.inl (hw _ (List.mem_of_getElem? (i := 126) rfl))) (Or.inl (hw _ (List.mem_of_getElem? (i := 92) rfl))) (by decide) (t := .int) (t' := .int) (by decide) (by decide)))).keep K115 (ninS d1 nin0))
  have E_a_119 := ((E_a.keep K102).keep K115)
  obtain ⟨T117, h117, X117, e117, W117, st117⟩ := putF X115 hx hZ hown (host := "") (Or.inl (hw _ (List.mem_of_getElem? (i := 125) rfl))) Via.refl rfl F_count_a_118 E_a_119 (Or.inl (hw _ (List.mem_of_getElem? (i := 126) rfl))) (hw _ (List.mem_of_getElem? (i := 30) rfl)) (ty := .int) (by decide) rfl rfl (g := (mkF m 56 #[.val (.ref a), .val (.ref x)] [(.int (0 : Int32)), (.ref a)])) rfl rfl (hb hby dTK_56)
  have Fw117 := F_count_a_118.same W117
  have K117 : Keep T115.heap h117 [a] := Keep.of_wr W117
  have KH120 : Keep h0 h117 [a, ln] := KH116.trans K117 (allS (Or.inl (List.mem_of_getElem? (i := 0) rfl)) all0)
  have N117 := Fr.snoc X117 N115 g_a
  have E_a_121 := (E_a_119.keep K117)
  have F_line_a_122 := ((F_line_a_105.keep K115 (ninS d1 nin0)).other W117 (Or.inr (slot_ne (Or.inl (hw _ (List.mem_of_getElem? (i := 39) rfl))) (Or.inl (hw _ (List.mem_of_getElem? (i := 126) rfl))) (by decide) (t := (.array .char)) (t' := .int) (by decide) (by decide))))
  have F_length_a_123 := ((Fw102.keep K115 (ninS d1 nin0)).other W117 (Or.inr (slot_ne (Or.inl (hw _ (List.mem_of_getElem? (i := 92) rfl))) (Or.inl (hw _ (List.mem_of_getElem? (i := 126) rfl))) (by decide) (t := .int) (t' := .int) (by decide) (by decide))))
  have F_starts_a_124 := (((F_starts_a.other W102 (Or.inr (slot_ne (Or.inl (hw _ (List.mem_of_getElem? (i := 42) rfl))) (Or.inl (hw _ (List.mem_of_getElem? (i := 92) rfl))) (by decide) (t := (.array .int)) (t' := .int) (by decide) (by decide)))).keep K115 (ninS d1 nin0)).other W117 (Or.inr (slot_ne (Or.inl (hw _ (List.mem_of_getElem? (i := 42) rfl))) (Or.inl (hw _ (List.mem_of_getElem? (i := 126) rfl))) (by decide) (t := (.array .int)) (t' := .int) (by decide) (by decide))))
  have F_ends_a_125 := (((F_ends_a.other W102 (Or.inr (slot_ne (Or.inl (hw _ (List.mem_of_getElem? (i := 44) rfl))) (Or.inl (hw _ (List.mem_of_getElem? (i := 92) rfl))) (by decide) (t := (.array .int)) (t' := .int) (by decide) (by decide)))).keep K115 (ninS d1 nin0)).other W117 (Or.inr (slot_ne (Or.inl (hw _ (List.mem_of_getElem? (i := 44) rfl))) (Or.inl (hw _ (List.mem_of_getElem? (i := 126) rfl))) (by decide) (t := (.array .int)) (t' := .int) (by decide) (by decide))))
  have V_ln_126 := (Vq115.keep K117 (ninS (Ne.symm d1) nin0))
  have V_st_127 := (((V_st.keep K102 (ninS (Ne.symm d2) nin0)).keep K115 (ninS (Ne.symm d4) nin0)).keep K117 (ninS (Ne.symm d2) nin0))
  have V_en_128 := (((V_en.keep K102 (ninS (Ne.symm d3) nin0)).keep K115 (ninS (Ne.symm d5) nin0)).keep K117 (ninS (Ne.symm d3) nin0))
  obtain ⟨fs, hr, hrun, hended, hW, hsame⟩ := X117.leave (v := none) (fun _ => rfl)
  refine ⟨_, _, go0 _ ?_, hrun, hended, _, _, rfl, ?_, ⟨_, rfl⟩, hW, hsame.mono (by decide) (by decide)⟩
  · show Steps p.tables e below (s₁.setTop (mkF m 0 #[.val (.ref a), .val (.ref x)] [])) _
    refine XS.aloadN X0.here hx rfl (hb hby dTK_0) rfl rfl ?_
    show Steps p.tables e below (s₁.setTop (mkF m 1 #[.val (.ref a), .val (.ref x)] [(.ref a)])) _
    refine XS.aloadN X0.here hx rfl (hb hby dTK_1) rfl rfl ?_
    show Steps p.tables e below (s₁.setTop (mkF m 2 #[.val (.ref a), .val (.ref x)] [(.ref x), (.ref a)])) _
    refine st101.trans ?_
    show Steps p.tables e below (T101.setTop (mkF m 5 #[.val (.ref a), .val (.ref x)] [(.int (19 : Int32)), (.ref a)])) _
    refine st102 _ ?_
    show Steps p.tables e below (T102.setTop (mkF m 8 #[.val (.ref a), .val (.ref x)] [])) _
    refine XS.aloadN X102.here hx rfl (hb hby dTK_8) rfl rfl ?_
    show Steps p.tables e below (T102.setTop (mkF m 9 #[.val (.ref a), .val (.ref x)] [(.ref a)])) _
    refine st104 _ ?_
    show Steps p.tables e below (T104.setTop (mkF m 12 #[.val (.ref a), .val (.ref x)] [(.ref ln)])) _
    refine X104.arraylength hx (by rw [e104]; exact Ar107.1) (State.isArrayOf_alike hZ.alike Ar107.2.1) (g := (mkF m 12 #[.val (.ref a), .val (.ref x)] [(.ref ln)])) rfl rfl (hb hby dTK_12) _ ?_
    rw [len_of S107 M107]
    show Steps p.tables e below (T104.setTop (mkF m 13 #[.val (.ref a), .val (.ref x)] [(.int (128 : Int32))])) _
    refine XS.aloadN X104.here hx rfl (hb hby dTK_13) rfl rfl ?_
    show Steps p.tables e below (T104.setTop (mkF m 14 #[.val (.ref a), .val (.ref x)] [(.ref a), (.int (128 : Int32))])) _
    refine st108 _ ?_
    show Steps p.tables e below (T108.setTop (mkF m 17 #[.val (.ref a), .val (.ref x)] [(.int (19 : Int32)), (.int (128 : Int32))])) _
    refine XS.icmpYes X108.here hx rfl (pc0 := 17) (pc' := 40) rfl (hb hby dTK_17) rfl (flt ((by decide) : ¬ ((128 : Int32) < (19 : Int32)))).2.1 (by decide) (by decide) ?_
    show Steps p.tables e below (T108.setTop (mkF m 40 #[.val (.ref a), .val (.ref x)] [])) _
    refine XS.aloadN X108.here hx rfl (hb hby dTK_40) rfl rfl ?_
    show Steps p.tables e below (T108.setTop (mkF m 41 #[.val (.ref a), .val (.ref x)] [(.ref x)])) _
    refine XS.iconst X108.here hx rfl (hb hby dTK_41) ?_
    show Steps p.tables e below (T108.setTop (mkF m 42 #[.val (.ref a), .val (.ref x)] [(.int (0 : Int32)), (.ref x)])) _
    refine XS.aloadN X108.here hx rfl (hb hby dTK_42) rfl rfl ?_
    show Steps p.tables e below (T108.setTop (mkF m 43 #[.val (.ref a), .val (.ref x)] [(.ref a), (.int (0 : Int32)), (.ref x)])) _
    refine st109 _ ?_
    show Steps p.tables e below (T109.setTop (mkF m 46 #[.val (.ref a), .val (.ref x)] [(.int (19 : Int32)), (.int (0 : Int32)), (.ref x)])) _
    refine XS.aloadN X109.here hx rfl (hb hby dTK_46) rfl rfl ?_
    show Steps p.tables e below (T109.setTop (mkF m 47 #[.val (.ref a), .val (.ref x)] [(.ref a), (.int (19 : Int32)), (.int (0 : Int32)), (.ref x)])) _
    refine st110 _ ?_
    show Steps p.tables e below (T110.setTop (mkF m 50 #[.val (.ref a), .val (.ref x)] [(.ref ln), (.int (19 : Int32)), (.int (0 : Int32)), (.ref x)])) _
    refine XS.iconst X110.here hx rfl (hb hby dTK_50) ?_
    show Steps p.tables e below (T110.setTop (mkF m 51 #[.val (.ref a), .val (.ref x)] [(.int (0 : Int32)), (.ref ln), (.int (19 : Int32)), (.int (0 : Int32)), (.ref x)])) _
    refine st115.trans ?_
    show Steps p.tables e below (T115.setTop (mkF m 54 #[.val (.ref a), .val (.ref x)] [])) _
    refine XS.aloadN X115.here hx rfl (hb hby dTK_54) rfl rfl ?_
    show Steps p.tables e below (T115.setTop (mkF m 55 #[.val (.ref a), .val (.ref x)] [(.ref a)])) _
    refine XS.iconst X115.here hx rfl (hb hby dTK_55) ?_
    show Steps p.tables e below (T115.setTop (mkF m 56 #[.val (.ref a), .val (.ref x)] [(.int (0 : Int32)), (.ref a)])) _
    refine st117 _ ?_
    show Steps p.tables e below (T117.setTop (mkF m 59 #[.val (.ref a), .val (.ref x)] [])) _
    exact X117.returnOut hx Bd.returns (hb hby dTK_59) hr
  · show QTK Z W pp a ln st en kl ks ke ss es h0 n0 _ T117.heap _
    rw [e117]
    exact ⟨rfl, N117, KH120, ⟨E_a_121, F_line_a_122, F_length_a_123, Fw117, F_starts_a_124, F_ends_a_125, V_ln_126, V_st_127, V_en_128⟩⟩
theorem dAD_0 : decode prog_224_method_7_code 0 = .ok (.aload_n 0, 1) := by decide +kernel
theorem dAD_1 : decode prog_224_method_7_code 1 = .ok (.getfield 51, 3) := by decide +kernel
theorem dAD_4 : decode prog_224_method_7_code 4 = .ok (.aload_n 0, 1) := by decide +kernel
theorem dAD_5 : decode prog_224_method_7_code 5 = .ok (.getfield 13, 3) := by decide +kernel
theorem dAD_8 : decode prog_224_method_7_code 8 = .ok (.arraylength, 1) := by decide +kernel
theorem dAD_9 : decode prog_224_method_7_code 9 = .ok (.if_icmp .ne 37, 3) := by decide +kernel
theorem dAD_46 : decode prog_224_method_7_code 46 = .ok (.aload_n 0, 1) := by decide +kernel
theorem dAD_47 : decode prog_224_method_7_code 47 = .ok (.getfield 13, 3) := by decide +kernel
theorem dAD_50 : decode prog_224_method_7_code 50 = .ok (.aload_n 0, 1) := by decide +kernel
theorem dAD_51 : decode prog_224_method_7_code 51 = .ok (.getfield 51, 3) := by decide +kernel
theorem dAD_54 : decode prog_224_method_7_code 54 = .ok (.iload_n 1, 1) := by decide +kernel
theorem dAD_55 : decode prog_224_method_7_code 55 = .ok (.iastore, 1) := by decide +kernel
theorem dAD_56 : decode prog_224_method_7_code 56 = .ok (.aload_n 0, 1) := by decide +kernel
theorem dAD_57 : decode prog_224_method_7_code 57 = .ok (.getfield 17, 3) := by decide +kernel
theorem dAD_60 : decode prog_224_method_7_code 60 = .ok (.aload_n 0, 1) := by decide +kernel
theorem dAD_61 : decode prog_224_method_7_code 61 = .ok (.getfield 51, 3) := by decide +kernel
theorem dAD_64 : decode prog_224_method_7_code 64 = .ok (.iload_n 2, 1) := by decide +kernel
theorem dAD_65 : decode prog_224_method_7_code 65 = .ok (.iastore, 1) := by decide +kernel
theorem dAD_66 : decode prog_224_method_7_code 66 = .ok (.aload_n 0, 1) := by decide +kernel
theorem dAD_67 : decode prog_224_method_7_code 67 = .ok (.dup, 1) := by decide +kernel
theorem dAD_68 : decode prog_224_method_7_code 68 = .ok (.getfield 51, 3) := by decide +kernel
theorem dAD_71 : decode prog_224_method_7_code 71 = .ok (.iconst 1, 1) := by decide +kernel
theorem dAD_72 : decode prog_224_method_7_code 72 = .ok (.iadd, 1) := by decide +kernel
theorem dAD_73 : decode prog_224_method_7_code 73 = .ok (.putfield 51, 3) := by decide +kernel
theorem dAD_76 : decode prog_224_method_7_code 76 = .ok (.return_, 1) := by decide +kernel
theorem efAD (m : MethodId) (x0 : Addr) (x1 : Int32) (x2 : Int32) : entryFrame m #[(.ref x0), (.int x1), (.int x2)] 3 = mkF m 0 #[.val (.ref x0), .val (.int x1), .val (.int x2)] [] := by first | (simp [entryFrame, mkF, argsToLocals, Value.category]; done) | rfl
def QAD (Z : State) (a ln st en : Addr) (kl ks ke : ClassId) (cs : List Value) (len : Int32) (q : Nat) (ss es : List Value) (sv ev : Int32) (h0 : Heap) (n0 : Nat) (v : Option Value) (h : Heap) (L : List Loc) : Prop := v = none ∧ Fr n0 L ∧ Keep h0 h [a, st, en] ∧ own_FS Z h a ln st en kl ks ke cs len (Int32.ofNat (q + 1)) (ss ++ [.int sv]) (es ++ [.int ev])
set_option maxRecDepth 65536 in
set_option maxHeartbeats 40000000 in
theorem rmAD (l : Launch) (Z : State) (a0 : Array Value) (hw : ∀ d ∈ tables_1, d.before a0 Z = true) (ws : List Jvm.Cond) (a ln st en : Addr) (kl ks ke : ClassId) (cs : List Value) (len : Int32) (q : Nat) (ss es : List Value) (sv ev : Int32) (h0 : Heap) (n0 : Nat) (hq : q < 32) (hss : ss.length = q) (hes : es.length = q) (FS0 : own_FS Z h0 a ln st en kl ks ke cs len (Int32.ofNat q) ss es) (DI : own_Dist a ln st en) (g_a : n0 ≤ a) (g_ln : n0 ≤ ln) (g_st : n0 ≤ st) (g_en : n0 ≤ en) :
    MetFree l (⟨"com/example/allotrope/allotrope/workload/Fields", "add", "(II)V"⟩ : MethodName) (head1 (Jvm.Cond.code (⟨"com/example/allotrope/allotrope/workload/Fields", "add", "(II)V"⟩ : MethodName) prog_224_method_7_code 3 none :: ws) ({ frames := 0, cells := 0, slots := 0, locals := 0 } : Room)) (fun as_ U => as_ = #[(.ref a), (.int sv), (.int ev)] ∧ Z.Warmed39 U.vm ∧ U.heap = h0) (fun _ _ _ _ _ => True) (fun _ U o U' => ∃ v L, o = .returned v ∧ QAD Z a ln st en kl ks ke cs len q ss es sv ev h0 n0 v U'.heap L ∧ FrameEnd U o U' L ({ frames := 0, cells := 0, slots := 0, locals := 0 } : Room).cells ({ frames := 0, cells := 0, slots := 0, locals := 0 } : Room).slots) := by
  refine MetFree.of_bodySF (plainFor_of_name pnF) hisR ?_
  intro p e s m args below meth c s₁ Bd hml0 hP hK
  obtain ⟨rfl, hZ, hh⟩ := hP
  have hx := Bd.exec
  have hby := Bd.bytes
  have hml : c.maxLocals = 3 := hml0
  have hown : s.vm.findClass "com/example/allotrope/allotrope/workload/Fields" = some m.cls := findClass_of_methodNamed Bd.named
  have hnm := (name_of_methodNamed Bd.named Bd.method).1
  have X0 : Stand p l e ({ frames := 0, cells := 0, slots := 0, locals := 0 } : Room) s m #[(.ref a), (.int sv), (.int ev)] below meth c s₁ [] 0 0 := Stand.of_body Bd
  have e0 : s₁.heap = h0 := by rw [← hh, Bd.state]; rfl
  have N0 := Fr.nil n0
  have go0 : ∀ tg_, Steps p.tables e below (s₁.setTop (mkF m 0 #[.val (.ref a), .val (.int sv), .val (.int ev)] [])) tg_ → Steps p.tables e below (s₁.setTop (entryFrame m #[(.ref a), (.int sv), (.int ev)] 3)) tg_ := fun tg_ k => castTop (efAD m a sv ev) k
  obtain ⟨E_a, F_line_a, F_length_a, F_count_a, F_starts_a, F_ends_a, V_ln, V_st, V_en⟩ := id FS0
  obtain ⟨d1, d2, d3, d4, d5, d6⟩ := id DI
  have KH0 : Keep h0 h0 [a, st, en] := Keep.refl h0 [a, st, en]
  obtain ⟨T101, X101, e101, st101⟩ := getF X0 hx hZ hown (host := "") (Or.inl (hw _ (List.mem_of_getElem? (i := 125) rfl))) Via.refl e0 F_count_a (g := (mkF m 1 #[.val (.ref a), .val (.int sv), .val (.int ev)] [(.ref a)])) rfl rfl (hb hby dAD_1)
  obtain ⟨T102, X102, e102, st102⟩ := getF X101 hx hZ hown (host := "") (Or.inl (hw _ (List.mem_of_getElem? (i := 41) rfl))) Via.refl e101 F_starts_a (g := (mkF m 5 #[.val (.ref a), .val (.int sv), .val (.int ev)] [(.ref a), (.int (Int32.ofNat q))])) rfl rfl (hb hby dAD_5)
  obtain ⟨cl103, Ar103, q103, S103, M103, Hh103, G103⟩ := id V_st
  obtain ⟨T104, X104, e104, st104⟩ := getF X102 hx hZ hown (host := "") (Or.inl (hw _ (List.mem_of_getElem? (i := 41) rfl))) Via.refl e102 F_starts_a (g := (mkF m 47 #[.val (.ref a), .val (.int sv), .val (.int ev)] [(.ref a)])) rfl rfl (hb hby dAD_47)
  obtain ⟨T105, X105, e105, st105⟩ := getF X104 hx hZ hown (host := "") (Or.inl (hw _ (List.mem_of_getElem? (i := 125) rfl))) Via.refl e104 F_count_a (g := (mkF m 51 #[.val (.ref a), .val (.int sv), .val (.int ev)] [(.ref a), (.ref st)])) rfl rfl (hb hby dAD_51)
  obtain ⟨cl106, Ar106, q106, S106, M106, Hh106, G106⟩ := id (V_st.pad (pad_rep ss (.int (0 : Int32)) 1))
  obtain ⟨T106, h106, X106, e106, W106, st106⟩ := stI X105 hx hZ e105 Ar106 (j := (Int32.ofNat q)) (inb_of S106 ⟨own_nn (by omega), own_lt32 (b := 32) hq (by decide)⟩) (g := (mkF m 55 #[.val (.ref a), .val (.int sv), .val (.int ev)] [(.int sv), (.int (Int32.ofNat q)), (.ref st)])) rfl rfl (hb hby dAD_55)
  have V_st_106 : Arv Z h106 st ks .int (32 : Int32) (ss ++ [.int sv]) (.int (0 : Int32)) := (own_app_set ss (.int (0 : Int32)) (.int sv) q hss) ▸ (Arv.set Ar106 q106 S106 M106 Hh106 G106 rfl W106 q (own_clamp (by omega)) (by simp [hss]))
  have K106 : Keep h0 h106 [st] := Keep.of_wr W106
  have KH107 : Keep h0 h106 [a, st, en] := KH0.trans K106 (allS (Or.inl (List.mem_of_getElem? (i := 1) rfl)) all0)
  have N106 := Fr.snoc X106 N0 g_st
  have F_ends_a_109 := (F_ends_a.keep K106 (ninS d2 nin0))
  obtain ⟨T108, X108, e108, st108⟩ := getF X106 hx hZ hown (host := "") (Or.inl (hw _ (List.mem_of_getElem? (i := 43) rfl))) Via.refl e106 F_ends_a_109 (g := (mkF m 57 #[.val (.ref a), .val (.int sv), .val (.int ev)] [(.ref a)])) rfl rfl (hb hby dAD_57)
  have F_count_a_111 := (F_count_a.keep K106 (ninS d2 nin0))
  obtain ⟨T110, X110, e110, st110⟩ := getF X108 hx hZ hown (host := "") (Or.inl (hw _ (List.mem_of_getElem? (i := 125) rfl))) Via.refl e108 F_count_a_111 (g := (mkF m 61 #[.val (.ref a), .val (.int sv), .val (.int ev)] [(.ref a), (.ref en)])) rfl rfl (hb hby dAD_61)
  have V_en_112 := (V_en.keep K106 (ninS (Ne.symm d6) nin0))
  obtain ⟨cl113, Ar113, q113, S113, M113, Hh113, G113⟩ := id (V_en_112.pad (pad_rep es (.int (0 : Int32)) 1))
  obtain ⟨T113, h113, X113, e113, W113, st113⟩ := stI X110 hx hZ e110 Ar113 (j := (Int32.ofNat q)) (inb_of S113 ⟨own_nn (by omega), own_lt32 (b := 32) hq (by decide)⟩) (g := (mkF m 65 #[.val (.ref a), .val (.int sv), .val (.int ev)] [(.int ev), (.int (Int32.ofNat q)), (.ref en)])) rfl rfl (hb hby dAD_65)
  have V_en_113 : Arv Z h113 en ke .int (32 : Int32) (es ++ [.int ev]) (.int (0 : Int32)) := (own_app_set es (.int (0 : Int32)) (.int ev) q hes) ▸ (Arv.set Ar113 q113 S113 M113 Hh113 G113 rfl W113 q (own_clamp (by omega)) (by simp [hes]))
  have K113 : Keep h106 h113 [en] := Keep.of_wr W113
  have KH114 : Keep h0 h113 [a, st, en] := KH107.trans K113 (allS (Or.inl (List.mem_of_getElem? (i := 2) rfl)) all0)
  have N113 := Fr.snoc X113 N106 g_en
  have F_count_a_116 := (F_count_a_111.keep K113 (ninS d3 nin0))
  obtain ⟨T115, X115, e115, st115⟩ := getF X113 hx hZ hown (host := "") (Or.inl (hw _ (List.mem_of_getElem? (i := 125) rfl))) Via.refl e113 F_count_a_116 (g := (mkF m 68 #[.val (.ref a), .val (.int sv), .val (.int ev)] [(.ref a), (.ref a)])) rfl rfl (hb hby dAD_68)
  have E_a_118 := ((E_a.keep K106).keep K113)
  obtain ⟨T117, h117, X117, e117, W117, st117⟩ := putF X115 hx hZ hown (host := "") (Or.inl (hw _ (List.mem_of_getElem? (i := 125) rfl))) Via.refl e115 F_count_a_116 E_a_118 (Or.inl (hw _ (List.mem_of_getElem? (i := 126) rfl))) (hw _ (List.mem_of_getElem? (i := 30) rfl)) (ty := .int) (by decide) rfl rfl (g := (mkF m 73 #[.val (.ref a), .val (.int sv), .val (.int ev)] [(.int ((Int32.ofNat q) + (1 : Int32))), (.ref a)])) rfl rfl (hb hby dAD_73)
  have Fw117 := F_count_a_116.same W117
  have K117 : Keep h113 h117 [a] := Keep.of_wr W117
  have KH119 : Keep h0 h117 [a, st, en] := KH114.trans K117 (allS (Or.inl (List.mem_of_getElem? (i := 0) rfl)) all0)
  have N117 := Fr.snoc X117 N113 g_a
  rw [own_succ] at Fw117
  have E_a_120 := (E_a_118.keep K117)
  have F_line_a_121 := (((F_line_a.keep K106 (ninS d2 nin0)).keep K113 (ninS d3 nin0)).other W117 (Or.inr (slot_ne (Or.inl (hw _ (List.mem_of_getElem? (i := 39) rfl))) (Or.inl (hw _ (List.mem_of_getElem? (i := 126) rfl))) (by decide) (t := (.array .char)) (t' := .int) (by decide) (by decide))))
  have F_length_a_122 := (((F_length_a.keep K106 (ninS d2 nin0)).keep K113 (ninS d3 nin0)).other W117 (Or.inr (slot_ne (Or.inl (hw _ (List.mem_of_getElem? (i := 92) rfl))) (Or.inl (hw _ (List.mem_of_getElem? (i := 126) rfl))) (by decide) (t := .int) (t' := .int) (by decide) (by decide))))
  have F_starts_a_123 := (((F_starts_a.keep K106 (ninS d2 nin0)).keep K113 (ninS d3 nin0)).other W117 (Or.inr (slot_ne (Or.inl (hw _ (List.mem_of_getElem? (i := 42) rfl))) (Or.inl (hw _ (List.mem_of_getElem? (i := 126) rfl))) (by decide) (t := (.array .int)) (t' := .int) (by decide) (by decide))))
  have F_ends_a_124 := ((F_ends_a_109.keep K113 (ninS d3 nin0)).other W117 (Or.inr (slot_ne (Or.inl (hw _ (List.mem_of_getElem? (i := 44) rfl))) (Or.inl (hw _ (List.mem_of_getElem? (i := 126) rfl))) (by decide) (t := (.array .int)) (t' := .int) (by decide) (by decide))))
  have V_ln_125 := (((V_ln.keep K106 (ninS d4 nin0)).keep K113 (ninS d5 nin0)).keep K117 (ninS (Ne.symm d1) nin0))
  have V_st_126 := ((V_st_106.keep K113 (ninS d6 nin0)).keep K117 (ninS (Ne.symm d2) nin0))
  have V_en_127 := (V_en_113.keep K117 (ninS (Ne.symm d3) nin0))
  obtain ⟨fs, hr, hrun, hended, hW, hsame⟩ := X117.leave (v := none) (fun _ => rfl)
  refine ⟨_, _, go0 _ ?_, hrun, hended, _, _, rfl, ?_, ⟨_, rfl⟩, hW, hsame.mono (by decide) (by decide)⟩
  · show Steps p.tables e below (s₁.setTop (mkF m 0 #[.val (.ref a), .val (.int sv), .val (.int ev)] [])) _
    refine XS.aloadN X0.here hx rfl (hb hby dAD_0) rfl rfl ?_
    show Steps p.tables e below (s₁.setTop (mkF m 1 #[.val (.ref a), .val (.int sv), .val (.int ev)] [(.ref a)])) _
    refine st101 _ ?_
    show Steps p.tables e below (T101.setTop (mkF m 4 #[.val (.ref a), .val (.int sv), .val (.int ev)] [(.int (Int32.ofNat q))])) _
    refine XS.aloadN X101.here hx rfl (hb hby dAD_4) rfl rfl ?_
    show Steps p.tables e below (T101.setTop (mkF m 5 #[.val (.ref a), .val (.int sv), .val (.int ev)] [(.ref a), (.int (Int32.ofNat q))])) _
    refine st102 _ ?_
    show Steps p.tables e below (T102.setTop (mkF m 8 #[.val (.ref a), .val (.int sv), .val (.int ev)] [(.ref st), (.int (Int32.ofNat q))])) _
    refine X102.arraylength hx (by rw [e102]; exact Ar103.1) (State.isArrayOf_alike hZ.alike Ar103.2.1) (g := (mkF m 8 #[.val (.ref a), .val (.int sv), .val (.int ev)] [(.ref st), (.int (Int32.ofNat q))])) rfl rfl (hb hby dAD_8) _ ?_
    rw [len_of S103 M103]
    show Steps p.tables e below (T102.setTop (mkF m 9 #[.val (.ref a), .val (.int sv), .val (.int ev)] [(.int (32 : Int32)), (.int (Int32.ofNat q))])) _
    refine XS.icmpYes X102.here hx rfl (pc0 := 9) (pc' := 46) rfl (hb hby dAD_9) rfl (feq (fun e => by have := own_eq32 (b := 32) (by omega) (by decide) e; omega : ¬ ((Int32.ofNat q) = (32 : Int32)))).2 (by decide) (by decide) ?_
    show Steps p.tables e below (T102.setTop (mkF m 46 #[.val (.ref a), .val (.int sv), .val (.int ev)] [])) _
    refine XS.aloadN X102.here hx rfl (hb hby dAD_46) rfl rfl ?_
    show Steps p.tables e below (T102.setTop (mkF m 47 #[.val (.ref a), .val (.int sv), .val (.int ev)] [(.ref a)])) _
    refine st104 _ ?_
    show Steps p.tables e below (T104.setTop (mkF m 50 #[.val (.ref a), .val (.int sv), .val (.int ev)] [(.ref st)])) _
    refine XS.aloadN X104.here hx rfl (hb hby dAD_50) rfl rfl ?_
    show Steps p.tables e below (T104.setTop (mkF m 51 #[.val (.ref a), .val (.int sv), .val (.int ev)] [(.ref a), (.ref st)])) _
    refine st105 _ ?_
    show Steps p.tables e below (T105.setTop (mkF m 54 #[.val (.ref a), .val (.int sv), .val (.int ev)] [(.int (Int32.ofNat q)), (.ref st)])) _
    refine XS.iloadN X105.here hx rfl (hb hby dAD_54) rfl ?_
    show Steps p.tables e below (T105.setTop (mkF m 55 #[.val (.ref a), .val (.int sv), .val (.int ev)] [(.int sv), (.int (Int32.ofNat q)), (.ref st)])) _
    refine st106 _ ?_
    show Steps p.tables e below (T106.setTop (mkF m 56 #[.val (.ref a), .val (.int sv), .val (.int ev)] [])) _
    refine XS.aloadN X106.here hx rfl (hb hby dAD_56) rfl rfl ?_
    show Steps p.tables e below (T106.setTop (mkF m 57 #[.val (.ref a), .val (.int sv), .val (.int ev)] [(.ref a)])) _
    refine st108 _ ?_
    show Steps p.tables e below (T108.setTop (mkF m 60 #[.val (.ref a), .val (.int sv), .val (.int ev)] [(.ref en)])) _
    refine XS.aloadN X108.here hx rfl (hb hby dAD_60) rfl rfl ?_
    show Steps p.tables e below (T108.setTop (mkF m 61 #[.val (.ref a), .val (.int sv), .val (.int ev)] [(.ref a), (.ref en)])) _
    refine st110 _ ?_
    show Steps p.tables e below (T110.setTop (mkF m 64 #[.val (.ref a), .val (.int sv), .val (.int ev)] [(.int (Int32.ofNat q)), (.ref en)])) _
    refine XS.iloadN X110.here hx rfl (hb hby dAD_64) rfl ?_
    show Steps p.tables e below (T110.setTop (mkF m 65 #[.val (.ref a), .val (.int sv), .val (.int ev)] [(.int ev), (.int (Int32.ofNat q)), (.ref en)])) _
    refine st113 _ ?_
    show Steps p.tables e below (T113.setTop (mkF m 66 #[.val (.ref a), .val (.int sv), .val (.int ev)] [])) _
    refine XS.aloadN X113.here hx rfl (hb hby dAD_66) rfl rfl ?_
    show Steps p.tables e below (T113.setTop (mkF m 67 #[.val (.ref a), .val (.int sv), .val (.int ev)] [(.ref a)])) _
    refine XS.dup X113.here hx rfl (hb hby dAD_67) rfl rfl ?_
    show Steps p.tables e below (T113.setTop (mkF m 68 #[.val (.ref a), .val (.int sv), .val (.int ev)] [(.ref a), (.ref a)])) _
    refine st115 _ ?_
    show Steps p.tables e below (T115.setTop (mkF m 71 #[.val (.ref a), .val (.int sv), .val (.int ev)] [(.int (Int32.ofNat q)), (.ref a)])) _
    refine XS.iconst X115.here hx rfl (hb hby dAD_71) ?_
    show Steps p.tables e below (T115.setTop (mkF m 72 #[.val (.ref a), .val (.int sv), .val (.int ev)] [(.int (1 : Int32)), (.int (Int32.ofNat q)), (.ref a)])) _
    refine XS.iadd X115.here hx rfl (hb hby dAD_72) rfl ?_
    show Steps p.tables e below (T115.setTop (mkF m 73 #[.val (.ref a), .val (.int sv), .val (.int ev)] [(.int ((Int32.ofNat q) + (1 : Int32))), (.ref a)])) _
    refine st117 _ ?_
    show Steps p.tables e below (T117.setTop (mkF m 76 #[.val (.ref a), .val (.int sv), .val (.int ev)] [])) _
    exact X117.returnOut hx Bd.returns (hb hby dAD_76) hr
  · show QAD Z a ln st en kl ks ke cs len q ss es sv ev h0 n0 _ T117.heap _
    rw [e117]
    exact ⟨rfl, N117, KH119, ⟨E_a_120, F_line_a_121, F_length_a_122, Fw117, F_starts_a_123, F_ends_a_124, V_ln_125, V_st_126, V_en_127⟩⟩
theorem dSP_0 : decode prog_224_method_2_code 0 = .ok (.aload_n 0, 1) := by decide +kernel
theorem dSP_1 : decode prog_224_method_2_code 1 = .ok (.aload_n 1, 1) := by decide +kernel
theorem dSP_2 : decode prog_224_method_2_code 2 = .ok (.invokevirtual 20, 3) := by decide +kernel
theorem dSP_5 : decode prog_224_method_2_code 5 = .ok (.iconst 0, 1) := by decide +kernel
theorem dSP_6 : decode prog_224_method_2_code 6 = .ok (.istore_n 3, 1) := by decide +kernel
theorem dSP_7 : decode prog_224_method_2_code 7 = .ok (.iconst 0, 1) := by decide +kernel
theorem dSP_8 : decode prog_224_method_2_code 8 = .ok (.istore 4, 2) := by decide +kernel
theorem dSP_10 : decode prog_224_method_2_code 10 = .ok (.iload 4, 2) := by decide +kernel
theorem dSP_12 : decode prog_224_method_2_code 12 = .ok (.aload_n 0, 1) := by decide +kernel
theorem dSP_13 : decode prog_224_method_2_code 13 = .ok (.getfield 24, 3) := by decide +kernel
theorem dSP_16 : decode prog_224_method_2_code 16 = .ok (.if_icmp .ge 32, 3) := by decide +kernel
theorem dSP_19 : decode prog_224_method_2_code 19 = .ok (.aload_n 0, 1) := by decide +kernel
theorem dSP_20 : decode prog_224_method_2_code 20 = .ok (.getfield 9, 3) := by decide +kernel
theorem dSP_23 : decode prog_224_method_2_code 23 = .ok (.iload 4, 2) := by decide +kernel
theorem dSP_25 : decode prog_224_method_2_code 25 = .ok (.caload, 1) := by decide +kernel
theorem dSP_26 : decode prog_224_method_2_code 26 = .ok (.iload_n 2, 1) := by decide +kernel
theorem dSP_27 : decode prog_224_method_2_code 27 = .ok (.if_icmp .ne 15, 3) := by decide +kernel
theorem dSP_30 : decode prog_224_method_2_code 30 = .ok (.aload_n 0, 1) := by decide +kernel
theorem dSP_31 : decode prog_224_method_2_code 31 = .ok (.iload_n 3, 1) := by decide +kernel
theorem dSP_32 : decode prog_224_method_2_code 32 = .ok (.iload 4, 2) := by decide +kernel
theorem dSP_34 : decode prog_224_method_2_code 34 = .ok (.invokevirtual 28, 3) := by decide +kernel
theorem dSP_37 : decode prog_224_method_2_code 37 = .ok (.iload 4, 2) := by decide +kernel
theorem dSP_39 : decode prog_224_method_2_code 39 = .ok (.iconst 1, 1) := by decide +kernel
theorem dSP_40 : decode prog_224_method_2_code 40 = .ok (.iadd, 1) := by decide +kernel
theorem dSP_41 : decode prog_224_method_2_code 41 = .ok (.istore_n 3, 1) := by decide +kernel
theorem dSP_42 : decode prog_224_method_2_code 42 = .ok (.iinc 4 1, 3) := by decide +kernel
theorem dSP_45 : decode prog_224_method_2_code 45 = .ok (.goto (-35), 3) := by decide +kernel
theorem dSP_48 : decode prog_224_method_2_code 48 = .ok (.aload_n 0, 1) := by decide +kernel
theorem dSP_49 : decode prog_224_method_2_code 49 = .ok (.iload_n 3, 1) := by decide +kernel
theorem dSP_50 : decode prog_224_method_2_code 50 = .ok (.aload_n 0, 1) := by decide +kernel
theorem dSP_51 : decode prog_224_method_2_code 51 = .ok (.getfield 24, 3) := by decide +kernel
theorem dSP_54 : decode prog_224_method_2_code 54 = .ok (.invokevirtual 28, 3) := by decide +kernel
theorem dSP_57 : decode prog_224_method_2_code 57 = .ok (.return_, 1) := by decide +kernel
set_option maxRecDepth 65536 in
set_option maxHeartbeats 40000000 in
theorem tnSP {p : Program} {l : Launch} {e : Env} {R : Room} {s : State} {m : MethodId} {args : Array Value} {below : List Frame} {meth : Method} {c : Code} {T0 : State} {locs : List Loc} {cells slots : Nat} {Z : State} {a0 : Array Value} {h0 : Heap} {n0 : Nat} (W pp i : Nat) (a x ln : Addr) (kl : ClassId) (sv : Int32)
    (X0 : Stand p l e R s m args below meth c T0 locs cells slots) (hx : p.tables.exec = Jvm.exec) (hZ : Z.Warmed39 s.vm) (hw : ∀ d ∈ tables_1, d.before a0 Z = true) (hby : c.code = prog_224_method_2_code) (hml : c.maxLocals = 5) (hown : s.vm.findClass "com/example/allotrope/allotrope/workload/Fields" = some m.cls) (e0 : T0.heap = h0) (N0 : Fr n0 locs) (hi : i < 19) (hn : i ≠ pp) (FN : Fld Z h0 a "com/example/allotrope/allotrope/workload/Fields" "length" "I" (.int (19 : Int32))) (FI : Fld Z h0 a "com/example/allotrope/allotrope/workload/Fields" "line" "[C" (.ref ln)) (VL : Arv Z h0 ln kl .char (128 : Int32) ((own_cs W pp).map Value.int) (.int (0 : Int32))) :
    ∃ (T' : State), Stand p l e R s m args below meth c T' locs cells slots ∧ T'.heap = h0 ∧ ∀ target, Steps p.tables e below (T'.setTop (mkF m 10 #[.val (.ref a), .val (.ref x), .val (.int (44 : Int32)), .val (.int sv), .val (.int (Int32.ofNat (i + 1)))] [])) target → Steps p.tables e below (T0.setTop (mkF m 10 #[.val (.ref a), .val (.ref x), .val (.int (44 : Int32)), .val (.int sv), .val (.int (Int32.ofNat i))] [])) target := by
  have go0 : ∀ tg_, Steps p.tables e below (T0.setTop (mkF m 10 #[.val (.ref a), .val (.ref x), .val (.int (44 : Int32)), .val (.int sv), .val (.int (Int32.ofNat i))] [])) tg_ → Steps p.tables e below (T0.setTop (mkF m 10 #[.val (.ref a), .val (.ref x), .val (.int (44 : Int32)), .val (.int sv), .val (.int (Int32.ofNat i))] [])) tg_ := fun tg_ k => k
  obtain ⟨T101, X101, e101, st101⟩ := getF X0 hx hZ hown (host := "") (Or.inl (hw _ (List.mem_of_getElem? (i := 91) rfl))) Via.refl e0 FN (g := (mkF m 13 #[.val (.ref a), .val (.ref x), .val (.int (44 : Int32)), .val (.int sv), .val (.int (Int32.ofNat i))] [(.ref a), (.int (Int32.ofNat i))])) rfl rfl (hb hby dSP_13)
  obtain ⟨T102, X102, e102, st102⟩ := getF X101 hx hZ hown (host := "") (Or.inl (hw _ (List.mem_of_getElem? (i := 38) rfl))) Via.refl e101 FI (g := (mkF m 20 #[.val (.ref a), .val (.ref x), .val (.int (44 : Int32)), .val (.int sv), .val (.int (Int32.ofNat i))] [(.ref a)])) rfl rfl (hb hby dSP_20)
  obtain ⟨cl103, Ar103, q103, S103, M103, Hh103, G103⟩ := id VL
  have hin103 : ¬ ((Int32.ofNat i) < 0 ∨ cl103.slots.size ≤ ((Int32.ofNat i)).toNatClampNeg) := inb_of S103 ⟨own_nn (by omega), own_lt32 (b := 128) (by omega) (by decide)⟩
  have hat103 : cl103.slots[((Int32.ofNat i)).toNatClampNeg]? = some (.int (Int32.ofNat (own_ch W pp i))) := Has.at Hh103 hin103 (by rw [own_clamp (by omega)]; exact own_cs_v hi)
  have go104 : ∀ tg_, Steps p.tables e below (T102.setTop (mkF m 10 #[.val (.ref a), .val (.ref x), .val (.int (44 : Int32)), .val (.int sv), .val (.int ((Int32.ofNat i) + (1 : Int32)))] [])) tg_ → Steps p.tables e below (T0.setTop (mkF m 10 #[.val (.ref a), .val (.ref x), .val (.int (44 : Int32)), .val (.int sv), .val (.int (Int32.ofNat i))] [])) tg_ := fun tg_ k => go0 tg_ (by
      show Steps p.tables e below (T0.setTop (mkF m 10 #[.val (.ref a), .val (.ref x), .val (.int (44 : Int32)), .val (.int sv), .val (.int (Int32.ofNat i))] [])) _
      refine XS.iload X0.here hx rfl (hb hby dSP_10) rfl ?_
      show Steps p.tables e below (T0.setTop (mkF m 12 #[.val (.ref a), .val (.ref x), .val (.int (44 : Int32)), .val (.int sv), .val (.int (Int32.ofNat i))] [(.int (Int32.ofNat i))])) _
      refine XS.aloadN X0.here hx rfl (hb hby dSP_12) rfl rfl ?_
      show Steps p.tables e below (T0.setTop (mkF m 13 #[.val (.ref a), .val (.ref x), .val (.int (44 : Int32)), .val (.int sv), .val (.int (Int32.ofNat i))] [(.ref a), (.int (Int32.ofNat i))])) _
      refine st101 _ ?_
      show Steps p.tables e below (T101.setTop (mkF m 16 #[.val (.ref a), .val (.ref x), .val (.int (44 : Int32)), .val (.int sv), .val (.int (Int32.ofNat i))] [(.int (19 : Int32)), (.int (Int32.ofNat i))])) _
      refine XS.icmpNo X101.here hx rfl (hb hby dSP_16) rfl (tlt (own_lt32 (b := 19) hi (by decide) : (Int32.ofNat i) < (19 : Int32))).2.1 ?_
      show Steps p.tables e below (T101.setTop (mkF m 19 #[.val (.ref a), .val (.ref x), .val (.int (44 : Int32)), .val (.int sv), .val (.int (Int32.ofNat i))] [])) _
      refine XS.aloadN X101.here hx rfl (hb hby dSP_19) rfl rfl ?_
      show Steps p.tables e below (T101.setTop (mkF m 20 #[.val (.ref a), .val (.ref x), .val (.int (44 : Int32)), .val (.int sv), .val (.int (Int32.ofNat i))] [(.ref a)])) _
      refine st102 _ ?_
      show Steps p.tables e below (T102.setTop (mkF m 23 #[.val (.ref a), .val (.ref x), .val (.int (44 : Int32)), .val (.int sv), .val (.int (Int32.ofNat i))] [(.ref ln)])) _
      refine XS.iload X102.here hx rfl (hb hby dSP_23) rfl ?_
      show Steps p.tables e below (T102.setTop (mkF m 25 #[.val (.ref a), .val (.ref x), .val (.int (44 : Int32)), .val (.int sv), .val (.int (Int32.ofNat i))] [(.int (Int32.ofNat i)), (.ref ln)])) _
      refine X102.caload hx (j := (Int32.ofNat i)) (v := (.int (Int32.ofNat (own_ch W pp i)))) (by rw [e102]; exact Ar103.1) (State.isArrayOf_alike hZ.alike Ar103.2.1) Ar103.2.2 hin103 hat103 (g := (mkF m 25 #[.val (.ref a), .val (.ref x), .val (.int (44 : Int32)), .val (.int sv), .val (.int (Int32.ofNat i))] [(.int (Int32.ofNat i)), (.ref ln)])) rfl rfl (hb hby dSP_25) _ ?_
      show Steps p.tables e below (T102.setTop (mkF m 26 #[.val (.ref a), .val (.ref x), .val (.int (44 : Int32)), .val (.int sv), .val (.int (Int32.ofNat i))] [(.int (Int32.ofNat (own_ch W pp i)))])) _
      refine XS.iloadN X102.here hx rfl (hb hby dSP_26) rfl ?_
      show Steps p.tables e below (T102.setTop (mkF m 27 #[.val (.ref a), .val (.ref x), .val (.int (44 : Int32)), .val (.int sv), .val (.int (Int32.ofNat i))] [(.int (44 : Int32)), (.int (Int32.ofNat (own_ch W pp i)))])) _
      refine XS.icmpYes X102.here hx rfl (pc0 := 27) (pc' := 42) rfl (hb hby dSP_27) rfl (feq (fun e => by have h1 := own_ch_rng W pp i; exact hn ((own_ch_sep W pp i).mp (own_eq32 (b := 44) (by omega) (by decide) e)) : ¬ ((Int32.ofNat (own_ch W pp i)) = (44 : Int32)))).2 (by decide) (by decide) ?_
      show Steps p.tables e below (T102.setTop (mkF m 42 #[.val (.ref a), .val (.ref x), .val (.int (44 : Int32)), .val (.int sv), .val (.int (Int32.ofNat i))] [])) _
      refine XS.iinc X102.here hx rfl (hb hby dSP_42) rfl (l' := #[.val (.ref a), .val (.ref x), .val (.int (44 : Int32)), .val (.int sv), .val (.int ((Int32.ofNat i) + (1 : Int32)))]) rfl ?_
      show Steps p.tables e below (T102.setTop (mkF m 45 #[.val (.ref a), .val (.ref x), .val (.int (44 : Int32)), .val (.int sv), .val (.int ((Int32.ofNat i) + (1 : Int32)))] [])) _
      refine XS.goto X102.here hx rfl (pc0 := 45) (pc' := 10) rfl (hb hby dSP_45) (by decide) (by decide) ?_
      show Steps p.tables e below (T102.setTop (mkF m 10 #[.val (.ref a), .val (.ref x), .val (.int (44 : Int32)), .val (.int sv), .val (.int ((Int32.ofNat i) + (1 : Int32)))] [])) _
      exact k)
  rw [own_succ] at go104
  exact ⟨_, X102, e102, go104⟩
theorem lpSP {p : Program} {l : Launch} {e : Env} {R : Room} {s : State} {m : MethodId} {args : Array Value} {below : List Frame} {meth : Method} {c : Code} {locs : List Loc} {cells slots : Nat} {Z : State} {a0 : Array Value} {h0 : Heap} {n0 : Nat} (W pp : Nat) (a x ln : Addr) (kl : ClassId) (sv : Int32) (hx : p.tables.exec = Jvm.exec) (hZ : Z.Warmed39 s.vm) (hw : ∀ d ∈ tables_1, d.before a0 Z = true) (hby : c.code = prog_224_method_2_code) (hml : c.maxLocals = 5) (hown : s.vm.findClass "com/example/allotrope/allotrope/workload/Fields" = some m.cls) (N0 : Fr n0 locs) (FN : Fld Z h0 a "com/example/allotrope/allotrope/workload/Fields" "length" "I" (.int (19 : Int32))) (FI : Fld Z h0 a "com/example/allotrope/allotrope/workload/Fields" "line" "[C" (.ref ln)) (VL : Arv Z h0 ln kl .char (128 : Int32) ((own_cs W pp).map Value.int) (.int (0 : Int32))) (j : Nat) (hj : j ≤ 19) :
    ∀ (k i : Nat), i + k = j → (∀ q, i ≤ q → q < j → q ≠ pp) → ∀ {T0 : State}, Stand p l e R s m args below meth c T0 locs cells slots → T0.heap = h0 →
    ∃ (T' : State), Stand p l e R s m args below meth c T' locs cells slots ∧ T'.heap = h0 ∧ ∀ target, Steps p.tables e below (T'.setTop (mkF m 10 #[.val (.ref a), .val (.ref x), .val (.int (44 : Int32)), .val (.int sv), .val (.int (Int32.ofNat j))] [])) target → Steps p.tables e below (T0.setTop (mkF m 10 #[.val (.ref a), .val (.ref x), .val (.int (44 : Int32)), .val (.int sv), .val (.int (Int32.ofNat i))] [])) target
  | 0, i, hik, hne, T0, X0, e0 => by
    obtain rfl : i = j := by omega
    exact ⟨T0, X0, e0, fun t k => k⟩
  | k + 1, i, hik, hne, T0, X0, e0 => by
    obtain ⟨T1, X1, e1, g1⟩ := tnSP W pp i a x ln kl sv X0 hx hZ hw hby hml hown e0 N0 (by omega) (hne i (Nat.le_refl _) (by omega)) FN FI VL
    obtain ⟨T2, X2, e2, g2⟩ := lpSP W pp a x ln kl sv hx hZ hw hby hml hown N0 FN FI VL j hj k (i + 1) (by omega) (fun q h1 h2 => hne q (by omega) h2) X1 e1
    exact ⟨T2, X2, e2, fun t k => g1 t (g2 t k)⟩
theorem efSP (m : MethodId) (x0 : Addr) (x1 : Addr) (x2 : Int32) : entryFrame m #[(.ref x0), (.ref x1), (.int x2)] 5 = mkF m 0 #[.val (.ref x0), .val (.ref x1), .val (.int x2), .unset, .unset] [] := by first | (simp [entryFrame, mkF, argsToLocals, Value.category]; done) | rfl
def QSP (Z : State) (W pp : Nat) (a ln st en : Addr) (kl ks ke : ClassId) (h0 : Heap) (n0 : Nat) (v : Option Value) (h : Heap) (L : List Loc) : Prop := v = none ∧ Fr n0 L ∧ Keep h0 h [a, ln, st, en] ∧ own_FS Z h a ln st en kl ks ke ((own_cs W pp).map Value.int) 19 2 [.int (0 : Int32), .int (Int32.ofNat (pp + 1))] [.int (Int32.ofNat pp), .int (19 : Int32)]
set_option maxRecDepth 65536 in
set_option maxHeartbeats 40000000 in
theorem rmSP (l : Launch) (Z : State) (a0 : Array Value) (hw : ∀ d ∈ tables_1, d.before a0 Z = true) (ws : List Jvm.Cond) (W pp : Nat) (a ln st en : Addr) (kl ks ke : ClassId) (x t : Addr) (kt : ClassId) (G1 : Int32) (fm : Value) (h0 : Heap) (n0 : Nat) (hpp : pp ≤ 18) (FS0 : own_FS Z h0 a ln st en kl ks ke [] 0 0 [] []) (DI : own_Dist a ln st en) (g_a : n0 ≤ a) (g_ln : n0 ≤ ln) (g_st : n0 ≤ st) (g_en : n0 ≤ en) (nxa : x ≠ a) (nta : t ≠ a) (ntd : t ≠ ln) (Ex : Exa Z h0 x "java/lang/String") (Fv : Fld Z h0 x "java/lang/String" "value" "[B" (.ref t)) (FC : Fld Z h0 x "java/lang/String" "coder" "B" (.int (0 : Int32))) (VS : Arv Z h0 t kt .byte (19 : Int32) (((own_cs W pp).map (fun c => c.toInt8.toInt32)).map Value.int) (.int (0 : Int32))) (S2 : Sta Z h0 "java/lang/String" "COMPACT_STRINGS" "Z" (.int G1)) (P5 : ¬ (G1 = (0 : Int32))) (S4 : Sta Z h0 "jdk/internal/util/Preconditions" "SIOOBE_FORMATTER" "Ljava/util/function/BiFunction;" fm) (rfm : fm.isRef = true) :
    MetFree l (⟨"com/example/allotrope/allotrope/workload/Fields", "splitAt", "(Ljava/lang/String;C)V"⟩ : MethodName) (head1 (Jvm.Cond.code (⟨"com/example/allotrope/allotrope/workload/Fields", "splitAt", "(Ljava/lang/String;C)V"⟩ : MethodName) prog_224_method_2_code 5 none :: ws) ({ frames := 4, cells := 0, slots := 0, locals := 62 } : Room)) (fun as_ U => as_ = #[(.ref a), (.ref x), (.int (44 : Int32))] ∧ Z.Warmed39 U.vm ∧ U.heap = h0) (fun _ _ _ _ _ => True) (fun _ U o U' => ∃ v L, o = .returned v ∧ QSP Z W pp a ln st en kl ks ke h0 n0 v U'.heap L ∧ FrameEnd U o U' L ({ frames := 4, cells := 0, slots := 0, locals := 62 } : Room).cells ({ frames := 4, cells := 0, slots := 0, locals := 62 } : Room).slots) := by
  refine MetFree.of_bodySF (plainFor_of_name pnF) hisR ?_
  intro p e s m args below meth c s₁ Bd hml0 hP hK
  obtain ⟨rfl, hZ, hh⟩ := hP
  have hx := Bd.exec
  have hby := Bd.bytes
  have hml : c.maxLocals = 5 := hml0
  have hown : s.vm.findClass "com/example/allotrope/allotrope/workload/Fields" = some m.cls := findClass_of_methodNamed Bd.named
  have hnm := (name_of_methodNamed Bd.named Bd.method).1
  have X0 : Stand p l e ({ frames := 4, cells := 0, slots := 0, locals := 62 } : Room) s m #[(.ref a), (.ref x), (.int (44 : Int32))] below meth c s₁ [] 0 0 := Stand.of_body Bd
  have e0 : s₁.heap = h0 := by rw [← hh, Bd.state]; rfl
  have N0 := Fr.nil n0
  have go0 : ∀ tg_, Steps p.tables e below (s₁.setTop (mkF m 0 #[.val (.ref a), .val (.ref x), .val (.int (44 : Int32)), .unset, .unset] [])) tg_ → Steps p.tables e below (s₁.setTop (entryFrame m #[(.ref a), (.ref x), (.int (44 : Int32))] 5)) tg_ := fun tg_ k => castTop (efSP m a x (44 : Int32)) k
  obtain ⟨E_a, F_line_a, F_length_a, F_count_a, F_starts_a, F_ends_a, V_ln, V_st, V_en⟩ := id FS0
  obtain ⟨d1, d2, d3, d4, d5, d6⟩ := id DI
  have KH0 : Keep h0 h0 [a, ln, st, en] := Keep.refl h0 [a, ln, st, en]
  obtain ⟨cq101, q101a, q101b⟩ := (E_a).cell
  obtain ⟨_, _, ⟨T101, L101, kk101, nn101⟩, -, X101, ⟨Lc101, hQ101, l101, y101, z101⟩, st101⟩ := X0.privateBack hx (y := (⟨"com/example/allotrope/allotrope/workload/Fields", "take", "(Ljava/lang/String;)V"⟩ : MethodName)) hown (mvT hZ (hw _ (List.mem_of_getElem? (i := 77) rfl))) (mvT hZ (hw _ (List.mem_of_getElem? (i := 78) rfl))) (own_selP (y := (⟨"com/example/allotrope/allotrope/workload/Fields", "take", "(Ljava/lang/String;)V"⟩ : MethodName)) hZ (hw _ (List.mem_of_getElem? (i := 30) rfl)) (hw _ (List.mem_of_getElem? (i := 78) rfl)) (hw _ (List.mem_of_getElem? (i := 79) rfl)) (by decide)) (Cond.privateMethod_at (mvP hZ (hw _ (List.mem_of_getElem? (i := 79) rfl)) (args := #[]))) (mvT hZ (hw _ (List.mem_of_getElem? (i := 80) rfl))) (by decide) (backOf (W := 0) (rmTK l Z a0 hw [] W pp a ln st en kl ks ke _ _ [] [] x t kt G1 fm h0 n0 FS0 DI g_a g_ln g_st g_en nxa nta ntd Ex Fv FC VS S2 P5 S4 rfm) hZ (hw _ (List.mem_of_getElem? (i := 80) rfl)) (hw _ (List.mem_of_getElem? (i := 31) rfl)) (by decide) (by decide)) (g := (mkF m 2 #[.val (.ref a), .val (.ref x), .val (.int (44 : Int32)), .unset, .unset] [(.ref x), (.ref a)])) rfl (by rw [hml]; rfl) (Steps.refl _) (a := a) (by rw [e0]; exact q101a) q101b (argsL := [(.ref x)]) (rest := []) (lenOf pd__Ljava_lang_String__V rfl) rfl (by show 2 * 0 + _ ≤ _; exact Nat.le_of_eq rfl) (hb hby dSP_2) (fun _ _ => ⟨rfl, e0, Nat.le_of_ble_eq_true rfl, Nat.le_of_ble_eq_true rfl⟩)
  dsimp only [Pt.U, Pt.locs, Pt.cells, Pt.slots] at X101 l101 y101 z101 st101 hQ101
  subst l101 y101 z101
  obtain ⟨rfl, Nq101, K101, FT101⟩ := hQ101
  have N101 := Fr.app N0 Nq101
  have KH102 : Keep h0 T101.heap [a, ln, st, en] := KH0.trans K101 (allS (Or.inl (List.mem_of_getElem? (i := 0) rfl)) (allS (Or.inl (List.mem_of_getElem? (i := 1) rfl)) all0))
  obtain ⟨E1, Fl1, Fn1, Fc1, Fs1, Fe1, Vl1, Vs1, Ve1⟩ := id FT101
  have go103 : ∀ tg_, Steps p.tables e below (T101.setTop (mkF m 10 #[.val (.ref a), .val (.ref x), .val (.int (44 : Int32)), .val (.int (0 : Int32)), .val (.int (0 : Int32))] [])) tg_ → Steps p.tables e below (s₁.setTop (entryFrame m #[(.ref a), (.ref x), (.int (44 : Int32))] 5)) tg_ := fun tg_ k => go0 tg_ (by
      show Steps p.tables e below (s₁.setTop (mkF m 0 #[.val (.ref a), .val (.ref x), .val (.int (44 : Int32)), .unset, .unset] [])) _
      refine XS.aloadN X0.here hx rfl (hb hby dSP_0) rfl rfl ?_
      show Steps p.tables e below (s₁.setTop (mkF m 1 #[.val (.ref a), .val (.ref x), .val (.int (44 : Int32)), .unset, .unset] [(.ref a)])) _
      refine XS.aloadN X0.here hx rfl (hb hby dSP_1) rfl rfl ?_
      show Steps p.tables e below (s₁.setTop (mkF m 2 #[.val (.ref a), .val (.ref x), .val (.int (44 : Int32)), .unset, .unset] [(.ref x), (.ref a)])) _
      refine st101.trans ?_
      show Steps p.tables e below (T101.setTop (mkF m 5 #[.val (.ref a), .val (.ref x), .val (.int (44 : Int32)), .unset, .unset] [])) _
      refine XS.iconst X101.here hx rfl (hb hby dSP_5) ?_
      show Steps p.tables e below (T101.setTop (mkF m 6 #[.val (.ref a), .val (.ref x), .val (.int (44 : Int32)), .unset, .unset] [(.int (0 : Int32))])) _
      refine XS.istoreN X101.here hx rfl (hb hby dSP_6) rfl (l' := #[.val (.ref a), .val (.ref x), .val (.int (44 : Int32)), .val (.int (0 : Int32)), .unset]) rfl ?_
      show Steps p.tables e below (T101.setTop (mkF m 7 #[.val (.ref a), .val (.ref x), .val (.int (44 : Int32)), .val (.int (0 : Int32)), .unset] [])) _
      refine XS.iconst X101.here hx rfl (hb hby dSP_7) ?_
      show Steps p.tables e below (T101.setTop (mkF m 8 #[.val (.ref a), .val (.ref x), .val (.int (44 : Int32)), .val (.int (0 : Int32)), .unset] [(.int (0 : Int32))])) _
      refine XS.istore X101.here hx rfl (hb hby dSP_8) rfl (l' := #[.val (.ref a), .val (.ref x), .val (.int (44 : Int32)), .val (.int (0 : Int32)), .val (.int (0 : Int32))]) rfl ?_
      show Steps p.tables e below (T101.setTop (mkF m 10 #[.val (.ref a), .val (.ref x), .val (.int (44 : Int32)), .val (.int (0 : Int32)), .val (.int (0 : Int32))] [])) _
      exact k)
  obtain ⟨TA, XA, eA, gA⟩ := lpSP W pp a x ln kl (0 : Int32) hx hZ hw hby hml hown N101 Fn1 Fl1 Vl1 pp (by omega) pp 0 (by omega) (fun q _ h => Nat.ne_of_lt h) X101 rfl
  have goA : ∀ u, Steps p.tables e below (TA.setTop (mkF m 10 #[.val (.ref a), .val (.ref x), .val (.int (44 : Int32)), .val (.int (0 : Int32)), .val (.int (Int32.ofNat pp))] [])) u → Steps p.tables e below (s₁.setTop (entryFrame m #[(.ref a), (.ref x), (.int (44 : Int32))] 5)) u := fun u k => go103 u (gA u k)
  obtain ⟨T104, X104, e104, st104⟩ := getF XA hx hZ hown (host := "") (Or.inl (hw _ (List.mem_of_getElem? (i := 91) rfl))) Via.refl eA Fn1 (g := (mkF m 13 #[.val (.ref a), .val (.ref x), .val (.int (44 : Int32)), .val (.int (0 : Int32)), .val (.int (Int32.ofNat pp))] [(.ref a), (.int (Int32.ofNat pp))])) rfl rfl (hb hby dSP_13)
  obtain ⟨T105, X105, e105, st105⟩ := getF X104 hx hZ hown (host := "") (Or.inl (hw _ (List.mem_of_getElem? (i := 38) rfl))) Via.refl e104 Fl1 (g := (mkF m 20 #[.val (.ref a), .val (.ref x), .val (.int (44 : Int32)), .val (.int (0 : Int32)), .val (.int (Int32.ofNat pp))] [(.ref a)])) rfl rfl (hb hby dSP_20)
  obtain ⟨cl106, Ar106, q106, S106, M106, Hh106, G106⟩ := id Vl1
  have hin106 : ¬ ((Int32.ofNat pp) < 0 ∨ cl106.slots.size ≤ ((Int32.ofNat pp)).toNatClampNeg) := inb_of S106 ⟨own_nn (by omega), own_lt32 (b := 128) (by omega) (by decide)⟩
  have hat106 : cl106.slots[((Int32.ofNat pp)).toNatClampNeg]? = some (.int (Int32.ofNat (own_ch W pp pp))) := Has.at Hh106 hin106 (by rw [own_clamp (by omega)]; exact own_cs_v (by omega))
  obtain ⟨cq107, q107a, q107b⟩ := (E1).cell
  obtain ⟨_, _, ⟨T107, L107, kk107, nn107⟩, -, X107, ⟨Lc107, hQ107, l107, y107, z107⟩, st107⟩ := X105.privateBack hx (y := (⟨"com/example/allotrope/allotrope/workload/Fields", "add", "(II)V"⟩ : MethodName)) hown (mvT hZ (hw _ (List.mem_of_getElem? (i := 127) rfl))) (mvT hZ (hw _ (List.mem_of_getElem? (i := 128) rfl))) (own_selP (y := (⟨"com/example/allotrope/allotrope/workload/Fields", "add", "(II)V"⟩ : MethodName)) hZ (hw _ (List.mem_of_getElem? (i := 30) rfl)) (hw _ (List.mem_of_getElem? (i := 128) rfl)) (hw _ (List.mem_of_getElem? (i := 129) rfl)) (by decide)) (Cond.privateMethod_at (mvP hZ (hw _ (List.mem_of_getElem? (i := 129) rfl)) (args := #[]))) (mvT hZ (hw _ (List.mem_of_getElem? (i := 130) rfl))) (by decide) (backOf (W := 0) (rmAD l Z a0 hw [] a ln st en kl ks ke ((own_cs W pp).map Value.int) 19 0 [] [] (0 : Int32) (Int32.ofNat pp) T101.heap n0 (by decide) rfl rfl FT101 DI g_a g_ln g_st g_en) hZ (hw _ (List.mem_of_getElem? (i := 130) rfl)) (hw _ (List.mem_of_getElem? (i := 31) rfl)) (by decide) (by decide)) (g := (mkF m 34 #[.val (.ref a), .val (.ref x), .val (.int (44 : Int32)), .val (.int (0 : Int32)), .val (.int (Int32.ofNat pp))] [(.int (Int32.ofNat pp)), (.int (0 : Int32)), (.ref a)])) rfl (by rw [hml]; rfl) (Steps.refl _) (a := a) (by rw [e105]; exact q107a) q107b (argsL := [(.int (0 : Int32)), (.int (Int32.ofNat pp))]) (rest := []) (lenOf pd__II_V rfl) rfl (by show 2 * 0 + _ ≤ _; exact Nat.le_of_eq rfl) (hb hby dSP_34) (fun _ _ => ⟨rfl, e105, Nat.le_of_ble_eq_true rfl, Nat.le_of_ble_eq_true rfl⟩)
  dsimp only [Pt.U, Pt.locs, Pt.cells, Pt.slots] at X107 l107 y107 z107 st107 hQ107
  subst l107 y107 z107
  obtain ⟨rfl, Nq107, K107, FA107⟩ := hQ107
  have N107 := Fr.app N101 Nq107
  have KH108 : Keep h0 T107.heap [a, ln, st, en] := KH102.trans K107 (allS (Or.inl (List.mem_of_getElem? (i := 0) rfl)) (allS (Or.inl (List.mem_of_getElem? (i := 2) rfl)) (allS (Or.inl (List.mem_of_getElem? (i := 3) rfl)) all0)))
  obtain ⟨E2, Fl2, Fn2, Fc2, Fs2, Fe2, Vl2, Vs2, Ve2⟩ := id FA107
  have go109 : ∀ tg_, Steps p.tables e below (T107.setTop (mkF m 10 #[.val (.ref a), .val (.ref x), .val (.int (44 : Int32)), .val (.int ((Int32.ofNat pp) + (1 : Int32))), .val (.int ((Int32.ofNat pp) + (1 : Int32)))] [])) tg_ → Steps p.tables e below (s₁.setTop (entryFrame m #[(.ref a), (.ref x), (.int (44 : Int32))] 5)) tg_ := fun tg_ k => goA tg_ (by
      show Steps p.tables e below (TA.setTop (mkF m 10 #[.val (.ref a), .val (.ref x), .val (.int (44 : Int32)), .val (.int (0 : Int32)), .val (.int (Int32.ofNat pp))] [])) _
      refine XS.iload XA.here hx rfl (hb hby dSP_10) rfl ?_
      show Steps p.tables e below (TA.setTop (mkF m 12 #[.val (.ref a), .val (.ref x), .val (.int (44 : Int32)), .val (.int (0 : Int32)), .val (.int (Int32.ofNat pp))] [(.int (Int32.ofNat pp))])) _
      refine XS.aloadN XA.here hx rfl (hb hby dSP_12) rfl rfl ?_
      show Steps p.tables e below (TA.setTop (mkF m 13 #[.val (.ref a), .val (.ref x), .val (.int (44 : Int32)), .val (.int (0 : Int32)), .val (.int (Int32.ofNat pp))] [(.ref a), (.int (Int32.ofNat pp))])) _
      refine st104 _ ?_
      show Steps p.tables e below (T104.setTop (mkF m 16 #[.val (.ref a), .val (.ref x), .val (.int (44 : Int32)), .val (.int (0 : Int32)), .val (.int (Int32.ofNat pp))] [(.int (19 : Int32)), (.int (Int32.ofNat pp))])) _
      refine XS.icmpNo X104.here hx rfl (hb hby dSP_16) rfl (tlt (own_lt32 (b := 19) (by omega) (by decide) : (Int32.ofNat pp) < (19 : Int32))).2.1 ?_
      show Steps p.tables e below (T104.setTop (mkF m 19 #[.val (.ref a), .val (.ref x), .val (.int (44 : Int32)), .val (.int (0 : Int32)), .val (.int (Int32.ofNat pp))] [])) _
      refine XS.aloadN X104.here hx rfl (hb hby dSP_19) rfl rfl ?_
      show Steps p.tables e below (T104.setTop (mkF m 20 #[.val (.ref a), .val (.ref x), .val (.int (44 : Int32)), .val (.int (0 : Int32)), .val (.int (Int32.ofNat pp))] [(.ref a)])) _
      refine st105 _ ?_
      show Steps p.tables e below (T105.setTop (mkF m 23 #[.val (.ref a), .val (.ref x), .val (.int (44 : Int32)), .val (.int (0 : Int32)), .val (.int (Int32.ofNat pp))] [(.ref ln)])) _
      refine XS.iload X105.here hx rfl (hb hby dSP_23) rfl ?_
      show Steps p.tables e below (T105.setTop (mkF m 25 #[.val (.ref a), .val (.ref x), .val (.int (44 : Int32)), .val (.int (0 : Int32)), .val (.int (Int32.ofNat pp))] [(.int (Int32.ofNat pp)), (.ref ln)])) _
      refine X105.caload hx (j := (Int32.ofNat pp)) (v := (.int (Int32.ofNat (own_ch W pp pp)))) (by rw [e105]; exact Ar106.1) (State.isArrayOf_alike hZ.alike Ar106.2.1) Ar106.2.2 hin106 hat106 (g := (mkF m 25 #[.val (.ref a), .val (.ref x), .val (.int (44 : Int32)), .val (.int (0 : Int32)), .val (.int (Int32.ofNat pp))] [(.int (Int32.ofNat pp)), (.ref ln)])) rfl rfl (hb hby dSP_25) _ ?_
      show Steps p.tables e below (T105.setTop (mkF m 26 #[.val (.ref a), .val (.ref x), .val (.int (44 : Int32)), .val (.int (0 : Int32)), .val (.int (Int32.ofNat pp))] [(.int (Int32.ofNat (own_ch W pp pp)))])) _
      refine XS.iloadN X105.here hx rfl (hb hby dSP_26) rfl ?_
      show Steps p.tables e below (T105.setTop (mkF m 27 #[.val (.ref a), .val (.ref x), .val (.int (44 : Int32)), .val (.int (0 : Int32)), .val (.int (Int32.ofNat pp))] [(.int (44 : Int32)), (.int (Int32.ofNat (own_ch W pp pp)))])) _
      refine XS.icmpNo X105.here hx rfl (hb hby dSP_27) rfl (teq (by rw [(own_ch_sep W pp pp).mpr rfl]; rfl : (Int32.ofNat (own_ch W pp pp)) = (44 : Int32))).2 ?_
      show Steps p.tables e below (T105.setTop (mkF m 30 #[.val (.ref a), .val (.ref x), .val (.int (44 : Int32)), .val (.int (0 : Int32)), .val (.int (Int32.ofNat pp))] [])) _
      refine XS.aloadN X105.here hx rfl (hb hby dSP_30) rfl rfl ?_
      show Steps p.tables e below (T105.setTop (mkF m 31 #[.val (.ref a), .val (.ref x), .val (.int (44 : Int32)), .val (.int (0 : Int32)), .val (.int (Int32.ofNat pp))] [(.ref a)])) _
      refine XS.iloadN X105.here hx rfl (hb hby dSP_31) rfl ?_
      show Steps p.tables e below (T105.setTop (mkF m 32 #[.val (.ref a), .val (.ref x), .val (.int (44 : Int32)), .val (.int (0 : Int32)), .val (.int (Int32.ofNat pp))] [(.int (0 : Int32)), (.ref a)])) _
      refine XS.iload X105.here hx rfl (hb hby dSP_32) rfl ?_
      show Steps p.tables e below (T105.setTop (mkF m 34 #[.val (.ref a), .val (.ref x), .val (.int (44 : Int32)), .val (.int (0 : Int32)), .val (.int (Int32.ofNat pp))] [(.int (Int32.ofNat pp)), (.int (0 : Int32)), (.ref a)])) _
      refine st107.trans ?_
      show Steps p.tables e below (T107.setTop (mkF m 37 #[.val (.ref a), .val (.ref x), .val (.int (44 : Int32)), .val (.int (0 : Int32)), .val (.int (Int32.ofNat pp))] [])) _
      refine XS.iload X107.here hx rfl (hb hby dSP_37) rfl ?_
      show Steps p.tables e below (T107.setTop (mkF m 39 #[.val (.ref a), .val (.ref x), .val (.int (44 : Int32)), .val (.int (0 : Int32)), .val (.int (Int32.ofNat pp))] [(.int (Int32.ofNat pp))])) _
      refine XS.iconst X107.here hx rfl (hb hby dSP_39) ?_
      show Steps p.tables e below (T107.setTop (mkF m 40 #[.val (.ref a), .val (.ref x), .val (.int (44 : Int32)), .val (.int (0 : Int32)), .val (.int (Int32.ofNat pp))] [(.int (1 : Int32)), (.int (Int32.ofNat pp))])) _
      refine XS.iadd X107.here hx rfl (hb hby dSP_40) rfl ?_
      show Steps p.tables e below (T107.setTop (mkF m 41 #[.val (.ref a), .val (.ref x), .val (.int (44 : Int32)), .val (.int (0 : Int32)), .val (.int (Int32.ofNat pp))] [(.int ((Int32.ofNat pp) + (1 : Int32)))])) _
      refine XS.istoreN X107.here hx rfl (hb hby dSP_41) rfl (l' := #[.val (.ref a), .val (.ref x), .val (.int (44 : Int32)), .val (.int ((Int32.ofNat pp) + (1 : Int32))), .val (.int (Int32.ofNat pp))]) rfl ?_
      show Steps p.tables e below (T107.setTop (mkF m 42 #[.val (.ref a), .val (.ref x), .val (.int (44 : Int32)), .val (.int ((Int32.ofNat pp) + (1 : Int32))), .val (.int (Int32.ofNat pp))] [])) _
      refine XS.iinc X107.here hx rfl (hb hby dSP_42) rfl (l' := #[.val (.ref a), .val (.ref x), .val (.int (44 : Int32)), .val (.int ((Int32.ofNat pp) + (1 : Int32))), .val (.int ((Int32.ofNat pp) + (1 : Int32)))]) rfl ?_
      show Steps p.tables e below (T107.setTop (mkF m 45 #[.val (.ref a), .val (.ref x), .val (.int (44 : Int32)), .val (.int ((Int32.ofNat pp) + (1 : Int32))), .val (.int ((Int32.ofNat pp) + (1 : Int32)))] [])) _
      refine XS.goto X107.here hx rfl (pc0 := 45) (pc' := 10) rfl (hb hby dSP_45) (by decide) (by decide) ?_
      show Steps p.tables e below (T107.setTop (mkF m 10 #[.val (.ref a), .val (.ref x), .val (.int (44 : Int32)), .val (.int ((Int32.ofNat pp) + (1 : Int32))), .val (.int ((Int32.ofNat pp) + (1 : Int32)))] [])) _
      exact k)
  rw [own_succ] at go109
  obtain ⟨TB, XB, eB, gB⟩ := lpSP W pp a x ln kl (Int32.ofNat (pp + 1)) hx hZ hw hby hml hown N107 Fn2 Fl2 Vl2 19 (by omega) (18 - pp) (pp + 1) (by omega) (fun q h _ => by omega) X107 rfl
  have goB : ∀ u, Steps p.tables e below (TB.setTop (mkF m 10 #[.val (.ref a), .val (.ref x), .val (.int (44 : Int32)), .val (.int (Int32.ofNat (pp + 1))), .val (.int (Int32.ofNat 19))] [])) u → Steps p.tables e below (s₁.setTop (entryFrame m #[(.ref a), (.ref x), (.int (44 : Int32))] 5)) u := fun u k => go109 u (gB u k)
  obtain ⟨T110, X110, e110, st110⟩ := getF XB hx hZ hown (host := "") (Or.inl (hw _ (List.mem_of_getElem? (i := 91) rfl))) Via.refl eB Fn2 (g := (mkF m 13 #[.val (.ref a), .val (.ref x), .val (.int (44 : Int32)), .val (.int (Int32.ofNat (pp + 1))), .val (.int (Int32.ofNat 19))] [(.ref a), (.int (Int32.ofNat 19))])) rfl rfl (hb hby dSP_13)
  obtain ⟨T111, X111, e111, st111⟩ := getF X110 hx hZ hown (host := "") (Or.inl (hw _ (List.mem_of_getElem? (i := 91) rfl))) Via.refl e110 Fn2 (g := (mkF m 51 #[.val (.ref a), .val (.ref x), .val (.int (44 : Int32)), .val (.int (Int32.ofNat (pp + 1))), .val (.int (Int32.ofNat 19))] [(.ref a), (.int (Int32.ofNat (pp + 1))), (.ref a)])) rfl rfl (hb hby dSP_51)
  obtain ⟨cq112, q112a, q112b⟩ := (E2).cell
  obtain ⟨_, _, ⟨T112, L112, kk112, nn112⟩, -, X112, ⟨Lc112, hQ112, l112, y112, z112⟩, st112⟩ := X111.privateBack hx (y := (⟨"com/example/allotrope/allotrope/workload/Fields", "add", "(II)V"⟩ : MethodName)) hown (mvT hZ (hw _ (List.mem_of_getElem? (i := 127) rfl))) (mvT hZ (hw _ (List.mem_of_getElem? (i := 128) rfl))) (own_selP (y := (⟨"com/example/allotrope/allotrope/workload/Fields", "add", "(II)V"⟩ : MethodName)) hZ (hw _ (List.mem_of_getElem? (i := 30) rfl)) (hw _ (List.mem_of_getElem? (i := 128) rfl)) (hw _ (List.mem_of_getElem? (i := 129) rfl)) (by decide)) (Cond.privateMethod_at (mvP hZ (hw _ (List.mem_of_getElem? (i := 129) rfl)) (args := #[]))) (mvT hZ (hw _ (List.mem_of_getElem? (i := 130) rfl))) (by decide) (backOf (W := 0) (rmAD l Z a0 hw [] a ln st en kl ks ke ((own_cs W pp).map Value.int) 19 1 [.int (0 : Int32)] [.int (Int32.ofNat pp)] (Int32.ofNat (pp + 1)) (19 : Int32) T107.heap n0 (by decide) rfl rfl FA107 DI g_a g_ln g_st g_en) hZ (hw _ (List.mem_of_getElem? (i := 130) rfl)) (hw _ (List.mem_of_getElem? (i := 31) rfl)) (by decide) (by decide)) (g := (mkF m 54 #[.val (.ref a), .val (.ref x), .val (.int (44 : Int32)), .val (.int (Int32.ofNat (pp + 1))), .val (.int (Int32.ofNat 19))] [(.int (19 : Int32)), (.int (Int32.ofNat (pp + 1))), (.ref a)])) rfl (by rw [hml]; rfl) (Steps.refl _) (a := a) (by rw [e111]; exact q112a) q112b (argsL := [(.int (Int32.ofNat (pp + 1))), (.int (19 : Int32))]) (rest := []) (lenOf pd__II_V rfl) rfl (by show 2 * 0 + _ ≤ _; exact Nat.le_of_eq rfl) (hb hby dSP_54) (fun _ _ => ⟨rfl, e111, Nat.le_of_ble_eq_true rfl, Nat.le_of_ble_eq_true rfl⟩)
  dsimp only [Pt.U, Pt.locs, Pt.cells, Pt.slots] at X112 l112 y112 z112 st112 hQ112
  subst l112 y112 z112
  obtain ⟨rfl, Nq112, K112, FA112⟩ := hQ112
  have N112 := Fr.app N107 Nq112
  have KH113 : Keep h0 T112.heap [a, ln, st, en] := KH108.trans K112 (allS (Or.inl (List.mem_of_getElem? (i := 0) rfl)) (allS (Or.inl (List.mem_of_getElem? (i := 2) rfl)) (allS (Or.inl (List.mem_of_getElem? (i := 3) rfl)) all0)))
  obtain ⟨fs, hr, hrun, hended, hW, hsame⟩ := X112.leave (v := none) (fun _ => rfl)
  refine ⟨_, _, goB _ ?_, hrun, hended, _, _, rfl, ?_, ⟨_, rfl⟩, hW, hsame.mono (by decide) (by decide)⟩
  · show Steps p.tables e below (TB.setTop (mkF m 10 #[.val (.ref a), .val (.ref x), .val (.int (44 : Int32)), .val (.int (Int32.ofNat (pp + 1))), .val (.int (Int32.ofNat 19))] [])) _
    refine XS.iload XB.here hx rfl (hb hby dSP_10) rfl ?_
    show Steps p.tables e below (TB.setTop (mkF m 12 #[.val (.ref a), .val (.ref x), .val (.int (44 : Int32)), .val (.int (Int32.ofNat (pp + 1))), .val (.int (Int32.ofNat 19))] [(.int (Int32.ofNat 19))])) _
    refine XS.aloadN XB.here hx rfl (hb hby dSP_12) rfl rfl ?_
    show Steps p.tables e below (TB.setTop (mkF m 13 #[.val (.ref a), .val (.ref x), .val (.int (44 : Int32)), .val (.int (Int32.ofNat (pp + 1))), .val (.int (Int32.ofNat 19))] [(.ref a), (.int (Int32.ofNat 19))])) _
    refine st110 _ ?_
    show Steps p.tables e below (T110.setTop (mkF m 16 #[.val (.ref a), .val (.ref x), .val (.int (44 : Int32)), .val (.int (Int32.ofNat (pp + 1))), .val (.int (Int32.ofNat 19))] [(.int (19 : Int32)), (.int (Int32.ofNat 19))])) _
    refine XS.icmpYes X110.here hx rfl (pc0 := 16) (pc' := 48) rfl (hb hby dSP_16) rfl (flt ((by decide) : ¬ ((Int32.ofNat 19) < (19 : Int32)))).2.1 (by decide) (by decide) ?_
    show Steps p.tables e below (T110.setTop (mkF m 48 #[.val (.ref a), .val (.ref x), .val (.int (44 : Int32)), .val (.int (Int32.ofNat (pp + 1))), .val (.int (Int32.ofNat 19))] [])) _
    refine XS.aloadN X110.here hx rfl (hb hby dSP_48) rfl rfl ?_
    show Steps p.tables e below (T110.setTop (mkF m 49 #[.val (.ref a), .val (.ref x), .val (.int (44 : Int32)), .val (.int (Int32.ofNat (pp + 1))), .val (.int (Int32.ofNat 19))] [(.ref a)])) _
    refine XS.iloadN X110.here hx rfl (hb hby dSP_49) rfl ?_
    show Steps p.tables e below (T110.setTop (mkF m 50 #[.val (.ref a), .val (.ref x), .val (.int (44 : Int32)), .val (.int (Int32.ofNat (pp + 1))), .val (.int (Int32.ofNat 19))] [(.int (Int32.ofNat (pp + 1))), (.ref a)])) _
    refine XS.aloadN X110.here hx rfl (hb hby dSP_50) rfl rfl ?_
    show Steps p.tables e below (T110.setTop (mkF m 51 #[.val (.ref a), .val (.ref x), .val (.int (44 : Int32)), .val (.int (Int32.ofNat (pp + 1))), .val (.int (Int32.ofNat 19))] [(.ref a), (.int (Int32.ofNat (pp + 1))), (.ref a)])) _
    refine st111 _ ?_
    show Steps p.tables e below (T111.setTop (mkF m 54 #[.val (.ref a), .val (.ref x), .val (.int (44 : Int32)), .val (.int (Int32.ofNat (pp + 1))), .val (.int (Int32.ofNat 19))] [(.int (19 : Int32)), (.int (Int32.ofNat (pp + 1))), (.ref a)])) _
    refine st112.trans ?_
    show Steps p.tables e below (T112.setTop (mkF m 57 #[.val (.ref a), .val (.ref x), .val (.int (44 : Int32)), .val (.int (Int32.ofNat (pp + 1))), .val (.int (Int32.ofNat 19))] [])) _
    exact X112.returnOut hx Bd.returns (hb hby dSP_57) hr
  · show QSP Z W pp a ln st en kl ks ke h0 n0 _ T112.heap _
    exact ⟨rfl, N112, KH113, FA112⟩
theorem dCN_0 : decode prog_224_method_8_code 0 = .ok (.aload_n 0, 1) := by decide +kernel
theorem dCN_1 : decode prog_224_method_8_code 1 = .ok (.getfield 51, 3) := by decide +kernel
theorem dCN_4 : decode prog_224_method_8_code 4 = .ok (.ireturn, 1) := by decide +kernel
theorem efCN (m : MethodId) (x0 : Addr) : entryFrame m #[(.ref x0)] 1 = mkF m 0 #[.val (.ref x0)] [] := by first | (simp [entryFrame, mkF, argsToLocals, Value.category]; done) | rfl
set_option maxRecDepth 65536 in
set_option maxHeartbeats 40000000 in
theorem rmCN (l : Launch) (Z : State) (a0 : Array Value) (hw : ∀ d ∈ tables_1, d.before a0 Z = true) (ws : List Jvm.Cond) (a : Addr) (cn : Int32) (h0 : Heap) (n0 : Nat) (FN : Fld Z h0 a "com/example/allotrope/allotrope/workload/Fields" "count" "I" (.int cn)) :
    MetFree l (⟨"com/example/allotrope/allotrope/workload/Fields", "count", "()I"⟩ : MethodName) (head1 (Jvm.Cond.code (⟨"com/example/allotrope/allotrope/workload/Fields", "count", "()I"⟩ : MethodName) prog_224_method_8_code 1 (some .int) :: ws) ({ frames := 0, cells := 0, slots := 0, locals := 0 } : Room)) (fun as_ U => as_ = #[(.ref a)] ∧ Z.Warmed39 U.vm ∧ U.heap = h0) (fun _ _ _ _ _ => True) (fun _ U o U' => ∃ v L, o = .returned v ∧ QU (some (.int cn)) h0 n0 v U'.heap L ∧ FrameEnd U o U' L ({ frames := 0, cells := 0, slots := 0, locals := 0 } : Room).cells ({ frames := 0, cells := 0, slots := 0, locals := 0 } : Room).slots) := by
  refine MetFree.of_bodySF (plainFor_of_name pnF) hisR ?_
  intro p e s m args below meth c s₁ Bd hml0 hP hK
  obtain ⟨rfl, hZ, hh⟩ := hP
  have hx := Bd.exec
  have hby := Bd.bytes
  have hml : c.maxLocals = 1 := hml0
  have hown : s.vm.findClass "com/example/allotrope/allotrope/workload/Fields" = some m.cls := findClass_of_methodNamed Bd.named
  have hnm := (name_of_methodNamed Bd.named Bd.method).1
  have X0 : Stand p l e ({ frames := 0, cells := 0, slots := 0, locals := 0 } : Room) s m #[(.ref a)] below meth c s₁ [] 0 0 := Stand.of_body Bd
  have e0 : s₁.heap = h0 := by rw [← hh, Bd.state]; rfl
  have N0 := Fr.nil n0
  have go0 : ∀ tg_, Steps p.tables e below (s₁.setTop (mkF m 0 #[.val (.ref a)] [])) tg_ → Steps p.tables e below (s₁.setTop (entryFrame m #[(.ref a)] 1)) tg_ := fun tg_ k => castTop (efCN m a) k
  obtain ⟨T101, X101, e101, st101⟩ := getF X0 hx hZ hown (host := "") (Or.inl (hw _ (List.mem_of_getElem? (i := 125) rfl))) Via.refl e0 FN (g := (mkF m 1 #[.val (.ref a)] [(.ref a)])) rfl rfl (hb hby dCN_1)
  obtain ⟨fs, hr, hrun, hended, hW, hsame⟩ := X101.leave (v := some (.int cn)) (fun h => by rw [Bd.returns] at h; cases h)
  refine ⟨_, _, go0 _ ?_, hrun, hended, _, _, rfl, ?_, ⟨_, rfl⟩, hW, hsame.mono (by decide) (by decide)⟩
  · show Steps p.tables e below (s₁.setTop (mkF m 0 #[.val (.ref a)] [])) _
    refine XS.aloadN X0.here hx rfl (hb hby dCN_0) rfl rfl ?_
    show Steps p.tables e below (s₁.setTop (mkF m 1 #[.val (.ref a)] [(.ref a)])) _
    refine st101 _ ?_
    show Steps p.tables e below (T101.setTop (mkF m 4 #[.val (.ref a)] [(.int cn)])) _
    exact retI X101 hx Bd.returns (hb hby dCN_4) hr
  · show QU (some (.int cn)) h0 n0 _ T101.heap _
    rw [e101]
    exact ⟨rfl, N0, rfl⟩
theorem dWH_0 : decode prog_224_method_18_code 0 = .ok (.lconst 0, 1) := by decide +kernel
theorem dWH_1 : decode prog_224_method_18_code 1 = .ok (.lstore_n 2, 1) := by decide +kernel
theorem dWH_2 : decode prog_224_method_18_code 2 = .ok (.aload_n 0, 1) := by decide +kernel
theorem dWH_3 : decode prog_224_method_18_code 3 = .ok (.getfield 13, 3) := by decide +kernel
theorem dWH_6 : decode prog_224_method_18_code 6 = .ok (.iload_n 1, 1) := by decide +kernel
theorem dWH_7 : decode prog_224_method_18_code 7 = .ok (.iaload, 1) := by decide +kernel
theorem dWH_8 : decode prog_224_method_18_code 8 = .ok (.istore 4, 2) := by decide +kernel
theorem dWH_10 : decode prog_224_method_18_code 10 = .ok (.iload 4, 2) := by decide +kernel
theorem dWH_12 : decode prog_224_method_18_code 12 = .ok (.aload_n 0, 1) := by decide +kernel
theorem dWH_13 : decode prog_224_method_18_code 13 = .ok (.getfield 17, 3) := by decide +kernel
theorem dWH_16 : decode prog_224_method_18_code 16 = .ok (.iload_n 1, 1) := by decide +kernel
theorem dWH_17 : decode prog_224_method_18_code 17 = .ok (.iaload, 1) := by decide +kernel
theorem dWH_18 : decode prog_224_method_18_code 18 = .ok (.if_icmp .ge 27, 3) := by decide +kernel
theorem dWH_21 : decode prog_224_method_18_code 21 = .ok (.lload_n 2, 1) := by decide +kernel
theorem dWH_22 : decode prog_224_method_18_code 22 = .ok (.ldc2_w 105, 3) := by decide +kernel
theorem dWH_25 : decode prog_224_method_18_code 25 = .ok (.lmul, 1) := by decide +kernel
theorem dWH_26 : decode prog_224_method_18_code 26 = .ok (.aload_n 0, 1) := by decide +kernel
theorem dWH_27 : decode prog_224_method_18_code 27 = .ok (.getfield 9, 3) := by decide +kernel
theorem dWH_30 : decode prog_224_method_18_code 30 = .ok (.iload 4, 2) := by decide +kernel
theorem dWH_32 : decode prog_224_method_18_code 32 = .ok (.caload, 1) := by decide +kernel
theorem dWH_33 : decode prog_224_method_18_code 33 = .ok (.bipush 48, 2) := by decide +kernel
theorem dWH_35 : decode prog_224_method_18_code 35 = .ok (.isub, 1) := by decide +kernel
theorem dWH_36 : decode prog_224_method_18_code 36 = .ok (.i2l, 1) := by decide +kernel
theorem dWH_37 : decode prog_224_method_18_code 37 = .ok (.ladd, 1) := by decide +kernel
theorem dWH_38 : decode prog_224_method_18_code 38 = .ok (.lstore_n 2, 1) := by decide +kernel
theorem dWH_39 : decode prog_224_method_18_code 39 = .ok (.iinc 4 1, 3) := by decide +kernel
theorem dWH_42 : decode prog_224_method_18_code 42 = .ok (.goto (-32), 3) := by decide +kernel
theorem dWH_45 : decode prog_224_method_18_code 45 = .ok (.lload_n 2, 1) := by decide +kernel
theorem dWH_46 : decode prog_224_method_18_code 46 = .ok (.lreturn, 1) := by decide +kernel
set_option maxRecDepth 65536 in
set_option maxHeartbeats 40000000 in
theorem tnWH {p : Program} {l : Launch} {e : Env} {R : Room} {s : State} {m : MethodId} {args : Array Value} {below : List Frame} {meth : Method} {c : Code} {T0 : State} {locs : List Loc} {cells slots : Nat} {Z : State} {a0 : Array Value} {h0 : Heap} {n0 : Nat} (W pp i va dd eN : Nat) (a ln en : Addr) (kl ke : ClassId) (ix : Int32) (es : List Value)
    (X0 : Stand p l e R s m args below meth c T0 locs cells slots) (hx : p.tables.exec = Jvm.exec) (hZ : Z.Warmed39 s.vm) (hw : ∀ d ∈ tables_1, d.before a0 Z = true) (hby : c.code = prog_224_method_18_code) (hml : c.maxLocals = 5) (hown : s.vm.findClass "com/example/allotrope/allotrope/workload/Fields" = some m.cls) (e0 : T0.heap = h0) (N0 : Fr n0 locs) (FI : Fld Z h0 a "com/example/allotrope/allotrope/workload/Fields" "line" "[C" (.ref ln)) (FE : Fld Z h0 a "com/example/allotrope/allotrope/workload/Fields" "ends" "[I" (.ref en)) (VL : Arv Z h0 ln kl .char (128 : Int32) ((own_cs W pp).map Value.int) (.int (0 : Int32))) (VE : Arv Z h0 en ke .int (32 : Int32) es (.int (0 : Int32))) (hix : ¬ ix < 0 ∧ ix < (32 : Int32)) (hE : es.getD ix.toNatClampNeg (.int (0 : Int32)) = .int (Int32.ofNat eN)) (heN : eN ≤ 19) (hi : i < eN) (hd : own_ch W pp i = 48 + dd) (hd10 : dd < 10) (hvd : va * 10 + dd < 9223372036854775808) :
    ∃ (T' : State), Stand p l e R s m args below meth c T' locs cells slots ∧ T'.heap = h0 ∧ ∀ target, Steps p.tables e below (T'.setTop (mkF m 10 #[.val (.ref a), .val (.int ix), .val (.long (Int64.ofNat (va * 10 + dd))), .second, .val (.int (Int32.ofNat (i + 1)))] [])) target → Steps p.tables e below (T0.setTop (mkF m 10 #[.val (.ref a), .val (.int ix), .val (.long (Int64.ofNat va)), .second, .val (.int (Int32.ofNat i))] [])) target := by
  have go0 : ∀ tg_, Steps p.tables e below (T0.setTop (mkF m 10 #[.val (.ref a), .val (.int ix), .val (.long (Int64.ofNat va)), .second, .val (.int (Int32.ofNat i))] [])) tg_ → Steps p.tables e below (T0.setTop (mkF m 10 #[.val (.ref a), .val (.int ix), .val (.long (Int64.ofNat va)), .second, .val (.int (Int32.ofNat i))] [])) tg_ := fun tg_ k => k
  obtain ⟨T101, X101, e101, st101⟩ := getF X0 hx hZ hown (host := "") (Or.inl (hw _ (List.mem_of_getElem? (i := 43) rfl))) Via.refl e0 FE (g := (mkF m 13 #[.val (.ref a), .val (.int ix), .val (.long (Int64.ofNat va)), .second, .val (.int (Int32.ofNat i))] [(.ref a), (.int (Int32.ofNat i))])) rfl rfl (hb hby dWH_13)
  obtain ⟨cl102, Ar102, q102, S102, M102, Hh102, G102⟩ := id VE
  have hin102 : ¬ (ix < 0 ∨ cl102.slots.size ≤ (ix).toNatClampNeg) := inb_of S102 hix
  have hat102 : cl102.slots[(ix).toNatClampNeg]? = some (.int (Int32.ofNat eN)) := Has.at Hh102 hin102 (hE)
  obtain ⟨T103, X103, e103, st103⟩ := getF X101 hx hZ hown (host := "") (Or.inl (hw _ (List.mem_of_getElem? (i := 38) rfl))) Via.refl e101 FI (g := (mkF m 27 #[.val (.ref a), .val (.int ix), .val (.long (Int64.ofNat va)), .second, .val (.int (Int32.ofNat i))] [(.ref a), (.long ((Int64.ofNat va) * (10 : Int64)))])) rfl rfl (hb hby dWH_27)
  obtain ⟨cl104, Ar104, q104, S104, M104, Hh104, G104⟩ := id VL
  have hin104 : ¬ ((Int32.ofNat i) < 0 ∨ cl104.slots.size ≤ ((Int32.ofNat i)).toNatClampNeg) := inb_of S104 ⟨own_nn (by omega), own_lt32 (b := 128) (by omega) (by decide)⟩
  have hat104 : cl104.slots[((Int32.ofNat i)).toNatClampNeg]? = some (.int (Int32.ofNat (own_ch W pp i))) := Has.at Hh104 hin104 (by rw [own_clamp (by omega)]; exact own_cs_v (by omega))
  have go105 : ∀ tg_, Steps p.tables e below (T103.setTop (mkF m 10 #[.val (.ref a), .val (.int ix), .val (.long (((Int64.ofNat va) * (10 : Int64)) + (((Int32.ofNat (own_ch W pp i)) - (48 : Int32)).toInt64))), .second, .val (.int ((Int32.ofNat i) + (1 : Int32)))] [])) tg_ → Steps p.tables e below (T0.setTop (mkF m 10 #[.val (.ref a), .val (.int ix), .val (.long (Int64.ofNat va)), .second, .val (.int (Int32.ofNat i))] [])) tg_ := fun tg_ k => go0 tg_ (by
      show Steps p.tables e below (T0.setTop (mkF m 10 #[.val (.ref a), .val (.int ix), .val (.long (Int64.ofNat va)), .second, .val (.int (Int32.ofNat i))] [])) _
      refine XS.iload X0.here hx rfl (hb hby dWH_10) rfl ?_
      show Steps p.tables e below (T0.setTop (mkF m 12 #[.val (.ref a), .val (.int ix), .val (.long (Int64.ofNat va)), .second, .val (.int (Int32.ofNat i))] [(.int (Int32.ofNat i))])) _
      refine XS.aloadN X0.here hx rfl (hb hby dWH_12) rfl rfl ?_
      show Steps p.tables e below (T0.setTop (mkF m 13 #[.val (.ref a), .val (.int ix), .val (.long (Int64.ofNat va)), .second, .val (.int (Int32.ofNat i))] [(.ref a), (.int (Int32.ofNat i))])) _
      refine st101 _ ?_
      show Steps p.tables e below (T101.setTop (mkF m 16 #[.val (.ref a), .val (.int ix), .val (.long (Int64.ofNat va)), .second, .val (.int (Int32.ofNat i))] [(.ref en), (.int (Int32.ofNat i))])) _
      refine XS.iloadN X101.here hx rfl (hb hby dWH_16) rfl ?_
      show Steps p.tables e below (T101.setTop (mkF m 17 #[.val (.ref a), .val (.int ix), .val (.long (Int64.ofNat va)), .second, .val (.int (Int32.ofNat i))] [(.int ix), (.ref en), (.int (Int32.ofNat i))])) _
      refine X101.iaload hx (j := ix) (v := (.int (Int32.ofNat eN))) (by rw [e101]; exact Ar102.1) (State.isArrayOf_alike hZ.alike Ar102.2.1) Ar102.2.2 hin102 hat102 (g := (mkF m 17 #[.val (.ref a), .val (.int ix), .val (.long (Int64.ofNat va)), .second, .val (.int (Int32.ofNat i))] [(.int ix), (.ref en), (.int (Int32.ofNat i))])) rfl rfl (hb hby dWH_17) _ ?_
      show Steps p.tables e below (T101.setTop (mkF m 18 #[.val (.ref a), .val (.int ix), .val (.long (Int64.ofNat va)), .second, .val (.int (Int32.ofNat i))] [(.int (Int32.ofNat eN)), (.int (Int32.ofNat i))])) _
      refine XS.icmpNo X101.here hx rfl (hb hby dWH_18) rfl (tlt (own_lt32 hi (by omega) : (Int32.ofNat i) < (Int32.ofNat eN))).2.1 ?_
      show Steps p.tables e below (T101.setTop (mkF m 21 #[.val (.ref a), .val (.int ix), .val (.long (Int64.ofNat va)), .second, .val (.int (Int32.ofNat i))] [])) _
      refine XS.lloadN X101.here hx rfl (hb hby dWH_21) rfl ?_
      show Steps p.tables e below (T101.setTop (mkF m 22 #[.val (.ref a), .val (.int ix), .val (.long (Int64.ofNat va)), .second, .val (.int (Int32.ofNat i))] [(.long (Int64.ofNat va))])) _
      refine X101.ldc2Long hx hown (mvT hZ (hw _ (List.mem_of_getElem? (i := 141) rfl))) (g := (mkF m 22 #[.val (.ref a), .val (.int ix), .val (.long (Int64.ofNat va)), .second, .val (.int (Int32.ofNat i))] [(.long (Int64.ofNat va))])) rfl (hb hby dWH_22) _ ?_
      show Steps p.tables e below (T101.setTop (mkF m 25 #[.val (.ref a), .val (.int ix), .val (.long (Int64.ofNat va)), .second, .val (.int (Int32.ofNat i))] [(.long (10 : Int64)), (.long (Int64.ofNat va))])) _
      refine XS.lmul X101.here hx rfl (hb hby dWH_25) rfl ?_
      show Steps p.tables e below (T101.setTop (mkF m 26 #[.val (.ref a), .val (.int ix), .val (.long (Int64.ofNat va)), .second, .val (.int (Int32.ofNat i))] [(.long ((Int64.ofNat va) * (10 : Int64)))])) _
      refine XS.aloadN X101.here hx rfl (hb hby dWH_26) rfl rfl ?_
      show Steps p.tables e below (T101.setTop (mkF m 27 #[.val (.ref a), .val (.int ix), .val (.long (Int64.ofNat va)), .second, .val (.int (Int32.ofNat i))] [(.ref a), (.long ((Int64.ofNat va) * (10 : Int64)))])) _
      refine st103 _ ?_
      show Steps p.tables e below (T103.setTop (mkF m 30 #[.val (.ref a), .val (.int ix), .val (.long (Int64.ofNat va)), .second, .val (.int (Int32.ofNat i))] [(.ref ln), (.long ((Int64.ofNat va) * (10 : Int64)))])) _
      refine XS.iload X103.here hx rfl (hb hby dWH_30) rfl ?_
      show Steps p.tables e below (T103.setTop (mkF m 32 #[.val (.ref a), .val (.int ix), .val (.long (Int64.ofNat va)), .second, .val (.int (Int32.ofNat i))] [(.int (Int32.ofNat i)), (.ref ln), (.long ((Int64.ofNat va) * (10 : Int64)))])) _
      refine X103.caload hx (j := (Int32.ofNat i)) (v := (.int (Int32.ofNat (own_ch W pp i)))) (by rw [e103]; exact Ar104.1) (State.isArrayOf_alike hZ.alike Ar104.2.1) Ar104.2.2 hin104 hat104 (g := (mkF m 32 #[.val (.ref a), .val (.int ix), .val (.long (Int64.ofNat va)), .second, .val (.int (Int32.ofNat i))] [(.int (Int32.ofNat i)), (.ref ln), (.long ((Int64.ofNat va) * (10 : Int64)))])) rfl rfl (hb hby dWH_32) _ ?_
      show Steps p.tables e below (T103.setTop (mkF m 33 #[.val (.ref a), .val (.int ix), .val (.long (Int64.ofNat va)), .second, .val (.int (Int32.ofNat i))] [(.int (Int32.ofNat (own_ch W pp i))), (.long ((Int64.ofNat va) * (10 : Int64)))])) _
      refine XS.bipush X103.here hx rfl (hb hby dWH_33) ?_
      show Steps p.tables e below (T103.setTop (mkF m 35 #[.val (.ref a), .val (.int ix), .val (.long (Int64.ofNat va)), .second, .val (.int (Int32.ofNat i))] [(.int (48 : Int32)), (.int (Int32.ofNat (own_ch W pp i))), (.long ((Int64.ofNat va) * (10 : Int64)))])) _
      refine XS.isub X103.here hx rfl (hb hby dWH_35) rfl ?_
      show Steps p.tables e below (T103.setTop (mkF m 36 #[.val (.ref a), .val (.int ix), .val (.long (Int64.ofNat va)), .second, .val (.int (Int32.ofNat i))] [(.int ((Int32.ofNat (own_ch W pp i)) - (48 : Int32))), (.long ((Int64.ofNat va) * (10 : Int64)))])) _
      refine XS.i2l X103.here hx rfl (hb hby dWH_36) rfl ?_
      show Steps p.tables e below (T103.setTop (mkF m 37 #[.val (.ref a), .val (.int ix), .val (.long (Int64.ofNat va)), .second, .val (.int (Int32.ofNat i))] [(.long (((Int32.ofNat (own_ch W pp i)) - (48 : Int32)).toInt64)), (.long ((Int64.ofNat va) * (10 : Int64)))])) _
      refine XS.ladd X103.here hx rfl (hb hby dWH_37) rfl ?_
      show Steps p.tables e below (T103.setTop (mkF m 38 #[.val (.ref a), .val (.int ix), .val (.long (Int64.ofNat va)), .second, .val (.int (Int32.ofNat i))] [(.long (((Int64.ofNat va) * (10 : Int64)) + (((Int32.ofNat (own_ch W pp i)) - (48 : Int32)).toInt64)))])) _
      refine XS.lstoreN X103.here hx rfl (hb hby dWH_38) rfl (l' := #[.val (.ref a), .val (.int ix), .val (.long (((Int64.ofNat va) * (10 : Int64)) + (((Int32.ofNat (own_ch W pp i)) - (48 : Int32)).toInt64))), .second, .val (.int (Int32.ofNat i))]) rfl ?_
      show Steps p.tables e below (T103.setTop (mkF m 39 #[.val (.ref a), .val (.int ix), .val (.long (((Int64.ofNat va) * (10 : Int64)) + (((Int32.ofNat (own_ch W pp i)) - (48 : Int32)).toInt64))), .second, .val (.int (Int32.ofNat i))] [])) _
      refine XS.iinc X103.here hx rfl (hb hby dWH_39) rfl (l' := #[.val (.ref a), .val (.int ix), .val (.long (((Int64.ofNat va) * (10 : Int64)) + (((Int32.ofNat (own_ch W pp i)) - (48 : Int32)).toInt64))), .second, .val (.int ((Int32.ofNat i) + (1 : Int32)))]) rfl ?_
      show Steps p.tables e below (T103.setTop (mkF m 42 #[.val (.ref a), .val (.int ix), .val (.long (((Int64.ofNat va) * (10 : Int64)) + (((Int32.ofNat (own_ch W pp i)) - (48 : Int32)).toInt64))), .second, .val (.int ((Int32.ofNat i) + (1 : Int32)))] [])) _
      refine XS.goto X103.here hx rfl (pc0 := 42) (pc' := 10) rfl (hb hby dWH_42) (by decide) (by decide) ?_
      show Steps p.tables e below (T103.setTop (mkF m 10 #[.val (.ref a), .val (.int ix), .val (.long (((Int64.ofNat va) * (10 : Int64)) + (((Int32.ofNat (own_ch W pp i)) - (48 : Int32)).toInt64))), .second, .val (.int ((Int32.ofNat i) + (1 : Int32)))] [])) _
      exact k)
  rw [own_succ, hd, own_step64 hvd hd10] at go105
  exact ⟨_, X103, e103, go105⟩
theorem lpWH {p : Program} {l : Launch} {e : Env} {R : Room} {s : State} {m : MethodId} {args : Array Value} {below : List Frame} {meth : Method} {c : Code} {locs : List Loc} {cells slots : Nat} {Z : State} {a0 : Array Value} {h0 : Heap} {n0 : Nat} (W pp eN : Nat) (a ln en : Addr) (kl ke : ClassId) (ix : Int32) (es : List Value) (hx : p.tables.exec = Jvm.exec) (hZ : Z.Warmed39 s.vm) (hw : ∀ d ∈ tables_1, d.before a0 Z = true) (hby : c.code = prog_224_method_18_code) (hml : c.maxLocals = 5) (hown : s.vm.findClass "com/example/allotrope/allotrope/workload/Fields" = some m.cls) (N0 : Fr n0 locs) (FI : Fld Z h0 a "com/example/allotrope/allotrope/workload/Fields" "line" "[C" (.ref ln)) (FE : Fld Z h0 a "com/example/allotrope/allotrope/workload/Fields" "ends" "[I" (.ref en)) (VL : Arv Z h0 ln kl .char (128 : Int32) ((own_cs W pp).map Value.int) (.int (0 : Int32))) (VE : Arv Z h0 en ke .int (32 : Int32) es (.int (0 : Int32))) (hix : ¬ ix < 0 ∧ ix < (32 : Int32)) (hE : es.getD ix.toNatClampNeg (.int (0 : Int32)) = .int (Int32.ofNat eN)) (heN : eN ≤ 19) (f d : Nat → Nat) (sN : Nat) (hf : ∀ j, sN ≤ j → j < eN → own_ch W pp j = 48 + d j ∧ d j < 10 ∧ f (j + 1) = f j * 10 + d j ∧ f (j + 1) < 9223372036854775808) :
    ∀ (k i : Nat), i + k = eN → sN ≤ i → ∀ {T0 : State}, Stand p l e R s m args below meth c T0 locs cells slots → T0.heap = h0 →
    ∃ (T' : State), Stand p l e R s m args below meth c T' locs cells slots ∧ T'.heap = h0 ∧ ∀ target, Steps p.tables e below (T'.setTop (mkF m 10 #[.val (.ref a), .val (.int ix), .val (.long (Int64.ofNat (f eN))), .second, .val (.int (Int32.ofNat eN))] [])) target → Steps p.tables e below (T0.setTop (mkF m 10 #[.val (.ref a), .val (.int ix), .val (.long (Int64.ofNat (f i))), .second, .val (.int (Int32.ofNat i))] [])) target
  | 0, i, hik, hsi, T0, X0, e0 => by
    obtain rfl : i = eN := by omega
    exact ⟨T0, X0, e0, fun t k => k⟩
  | k + 1, i, hik, hsi, T0, X0, e0 => by
    obtain ⟨q1, q2, q3, q4⟩ := hf i hsi (by omega)
    obtain ⟨T1, X1, e1, g1⟩ := tnWH W pp i (f i) (d i) eN a ln en kl ke ix es X0 hx hZ hw hby hml hown e0 N0 FI FE VL VE hix hE heN (by omega) q1 q2 (q3 ▸ q4)
    rw [← q3] at g1
    obtain ⟨T2, X2, e2, g2⟩ := lpWH W pp eN a ln en kl ke ix es hx hZ hw hby hml hown N0 FI FE VL VE hix hE heN f d sN hf k (i + 1) (by omega) (by omega) X1 e1
    exact ⟨T2, X2, e2, fun t k => g1 t (g2 t k)⟩
theorem efWH (m : MethodId) (x0 : Addr) (x1 : Int32) : entryFrame m #[(.ref x0), (.int x1)] 5 = mkF m 0 #[.val (.ref x0), .val (.int x1), .unset, .unset, .unset] [] := by first | (simp [entryFrame, mkF, argsToLocals, Value.category]; done) | rfl
set_option maxRecDepth 65536 in
set_option maxHeartbeats 40000000 in
theorem rmWH (l : Launch) (Z : State) (a0 : Array Value) (hw : ∀ d ∈ tables_1, d.before a0 Z = true) (ws : List Jvm.Cond) (W pp eN sN : Nat) (a ln st en : Addr) (kl ks ke : ClassId) (ix : Int32) (ss es : List Value) (f d : Nat → Nat) (h0 : Heap) (n0 : Nat) (FI : Fld Z h0 a "com/example/allotrope/allotrope/workload/Fields" "line" "[C" (.ref ln)) (FE : Fld Z h0 a "com/example/allotrope/allotrope/workload/Fields" "ends" "[I" (.ref en)) (VL : Arv Z h0 ln kl .char (128 : Int32) ((own_cs W pp).map Value.int) (.int (0 : Int32))) (VE : Arv Z h0 en ke .int (32 : Int32) es (.int (0 : Int32))) (hix : ¬ ix < 0 ∧ ix < (32 : Int32)) (hE : es.getD ix.toNatClampNeg (.int (0 : Int32)) = .int (Int32.ofNat eN)) (heN : eN ≤ 19) (FS : Fld Z h0 a "com/example/allotrope/allotrope/workload/Fields" "starts" "[I" (.ref st)) (VT : Arv Z h0 st ks .int (32 : Int32) ss (.int (0 : Int32))) (hS : ss.getD ix.toNatClampNeg (.int (0 : Int32)) = .int (Int32.ofNat sN)) (hsN : sN ≤ eN) (hf0 : f sN = 0) (hf : ∀ j, sN ≤ j → j < eN → own_ch W pp j = 48 + d j ∧ d j < 10 ∧ f (j + 1) = f j * 10 + d j ∧ f (j + 1) < 9223372036854775808) :
    MetFree l (⟨"com/example/allotrope/allotrope/workload/Fields", "whole", "(I)J"⟩ : MethodName) (head1 (Jvm.Cond.code (⟨"com/example/allotrope/allotrope/workload/Fields", "whole", "(I)J"⟩ : MethodName) prog_224_method_18_code 5 (some .long) :: ws) ({ frames := 0, cells := 0, slots := 0, locals := 0 } : Room)) (fun as_ U => as_ = #[(.ref a), (.int ix)] ∧ Z.Warmed39 U.vm ∧ U.heap = h0) (fun _ _ _ _ _ => True) (fun _ U o U' => ∃ v L, o = .returned v ∧ QU (some (.long (Int64.ofNat (f eN)))) h0 n0 v U'.heap L ∧ FrameEnd U o U' L ({ frames := 0, cells := 0, slots := 0, locals := 0 } : Room).cells ({ frames := 0, cells := 0, slots := 0, locals := 0 } : Room).slots) := by
  refine MetFree.of_bodySF (plainFor_of_name pnF) hisR ?_
  intro p e s m args below meth c s₁ Bd hml0 hP hK
  obtain ⟨rfl, hZ, hh⟩ := hP
  have hx := Bd.exec
  have hby := Bd.bytes
  have hml : c.maxLocals = 5 := hml0
  have hown : s.vm.findClass "com/example/allotrope/allotrope/workload/Fields" = some m.cls := findClass_of_methodNamed Bd.named
  have hnm := (name_of_methodNamed Bd.named Bd.method).1
  have X0 : Stand p l e ({ frames := 0, cells := 0, slots := 0, locals := 0 } : Room) s m #[(.ref a), (.int ix)] below meth c s₁ [] 0 0 := Stand.of_body Bd
  have e0 : s₁.heap = h0 := by rw [← hh, Bd.state]; rfl
  have N0 := Fr.nil n0
  have go0 : ∀ tg_, Steps p.tables e below (s₁.setTop (mkF m 0 #[.val (.ref a), .val (.int ix), .unset, .unset, .unset] [])) tg_ → Steps p.tables e below (s₁.setTop (entryFrame m #[(.ref a), (.int ix)] 5)) tg_ := fun tg_ k => castTop (efWH m a ix) k
  obtain ⟨T101, X101, e101, st101⟩ := getF X0 hx hZ hown (host := "") (Or.inl (hw _ (List.mem_of_getElem? (i := 41) rfl))) Via.refl e0 FS (g := (mkF m 3 #[.val (.ref a), .val (.int ix), .val (.long (0 : Int64)), .second, .unset] [(.ref a)])) rfl rfl (hb hby dWH_3)
  obtain ⟨cl102, Ar102, q102, S102, M102, Hh102, G102⟩ := id VT
  have hin102 : ¬ (ix < 0 ∨ cl102.slots.size ≤ (ix).toNatClampNeg) := inb_of S102 hix
  have hat102 : cl102.slots[(ix).toNatClampNeg]? = some (.int (Int32.ofNat sN)) := Has.at Hh102 hin102 (hS)
  have go103 : ∀ tg_, Steps p.tables e below (T101.setTop (mkF m 10 #[.val (.ref a), .val (.int ix), .val (.long (0 : Int64)), .second, .val (.int (Int32.ofNat sN))] [])) tg_ → Steps p.tables e below (s₁.setTop (entryFrame m #[(.ref a), (.int ix)] 5)) tg_ := fun tg_ k => go0 tg_ (by
      show Steps p.tables e below (s₁.setTop (mkF m 0 #[.val (.ref a), .val (.int ix), .unset, .unset, .unset] [])) _
      refine XS.lconst X0.here hx rfl (hb hby dWH_0) ?_
      show Steps p.tables e below (s₁.setTop (mkF m 1 #[.val (.ref a), .val (.int ix), .unset, .unset, .unset] [(.long (0 : Int64))])) _
      refine XS.lstoreN X0.here hx rfl (hb hby dWH_1) rfl (l' := #[.val (.ref a), .val (.int ix), .val (.long (0 : Int64)), .second, .unset]) rfl ?_
      show Steps p.tables e below (s₁.setTop (mkF m 2 #[.val (.ref a), .val (.int ix), .val (.long (0 : Int64)), .second, .unset] [])) _
      refine XS.aloadN X0.here hx rfl (hb hby dWH_2) rfl rfl ?_
      show Steps p.tables e below (s₁.setTop (mkF m 3 #[.val (.ref a), .val (.int ix), .val (.long (0 : Int64)), .second, .unset] [(.ref a)])) _
      refine st101 _ ?_
      show Steps p.tables e below (T101.setTop (mkF m 6 #[.val (.ref a), .val (.int ix), .val (.long (0 : Int64)), .second, .unset] [(.ref st)])) _
      refine XS.iloadN X101.here hx rfl (hb hby dWH_6) rfl ?_
      show Steps p.tables e below (T101.setTop (mkF m 7 #[.val (.ref a), .val (.int ix), .val (.long (0 : Int64)), .second, .unset] [(.int ix), (.ref st)])) _
      refine X101.iaload hx (j := ix) (v := (.int (Int32.ofNat sN))) (by rw [e101]; exact Ar102.1) (State.isArrayOf_alike hZ.alike Ar102.2.1) Ar102.2.2 hin102 hat102 (g := (mkF m 7 #[.val (.ref a), .val (.int ix), .val (.long (0 : Int64)), .second, .unset] [(.int ix), (.ref st)])) rfl rfl (hb hby dWH_7) _ ?_
      show Steps p.tables e below (T101.setTop (mkF m 8 #[.val (.ref a), .val (.int ix), .val (.long (0 : Int64)), .second, .unset] [(.int (Int32.ofNat sN))])) _
      refine XS.istore X101.here hx rfl (hb hby dWH_8) rfl (l' := #[.val (.ref a), .val (.int ix), .val (.long (0 : Int64)), .second, .val (.int (Int32.ofNat sN))]) rfl ?_
      show Steps p.tables e below (T101.setTop (mkF m 10 #[.val (.ref a), .val (.int ix), .val (.long (0 : Int64)), .second, .val (.int (Int32.ofNat sN))] [])) _
      exact k)
  obtain ⟨T9, X9, e9, g9⟩ := lpWH W pp eN a ln en kl ke ix es hx hZ hw hby hml hown N0 FI FE VL VE hix hE heN f d sN hf (eN - sN) sN (by omega) (Nat.le_refl _) X101 e101
  rw [hf0] at g9
  have go9 : ∀ u, Steps p.tables e below (T9.setTop (mkF m 10 #[.val (.ref a), .val (.int ix), .val (.long (Int64.ofNat (f eN))), .second, .val (.int (Int32.ofNat eN))] [])) u → Steps p.tables e below (s₁.setTop (entryFrame m #[(.ref a), (.int ix)] 5)) u := fun u k => go103 u (g9 u k)
  obtain ⟨T104, X104, e104, st104⟩ := getF X9 hx hZ hown (host := "") (Or.inl (hw _ (List.mem_of_getElem? (i := 43) rfl))) Via.refl e9 FE (g := (mkF m 13 #[.val (.ref a), .val (.int ix), .val (.long (Int64.ofNat (f eN))), .second, .val (.int (Int32.ofNat eN))] [(.ref a), (.int (Int32.ofNat eN))])) rfl rfl (hb hby dWH_13)
  obtain ⟨cl105, Ar105, q105, S105, M105, Hh105, G105⟩ := id VE
  have hin105 : ¬ (ix < 0 ∨ cl105.slots.size ≤ (ix).toNatClampNeg) := inb_of S105 hix
  have hat105 : cl105.slots[(ix).toNatClampNeg]? = some (.int (Int32.ofNat eN)) := Has.at Hh105 hin105 (hE)
  obtain ⟨fs, hr, hrun, hended, hW, hsame⟩ := X104.leave (v := some (.long (Int64.ofNat (f eN)))) (fun h => by rw [Bd.returns] at h; cases h)
  refine ⟨_, _, go9 _ ?_, hrun, hended, _, _, rfl, ?_, ⟨_, rfl⟩, hW, hsame.mono (by decide) (by decide)⟩
  · show Steps p.tables e below (T9.setTop (mkF m 10 #[.val (.ref a), .val (.int ix), .val (.long (Int64.ofNat (f eN))), .second, .val (.int (Int32.ofNat eN))] [])) _
    refine XS.iload X9.here hx rfl (hb hby dWH_10) rfl ?_
    show Steps p.tables e below (T9.setTop (mkF m 12 #[.val (.ref a), .val (.int ix), .val (.long (Int64.ofNat (f eN))), .second, .val (.int (Int32.ofNat eN))] [(.int (Int32.ofNat eN))])) _
    refine XS.aloadN X9.here hx rfl (hb hby dWH_12) rfl rfl ?_
    show Steps p.tables e below (T9.setTop (mkF m 13 #[.val (.ref a), .val (.int ix), .val (.long (Int64.ofNat (f eN))), .second, .val (.int (Int32.ofNat eN))] [(.ref a), (.int (Int32.ofNat eN))])) _
    refine st104 _ ?_
    show Steps p.tables e below (T104.setTop (mkF m 16 #[.val (.ref a), .val (.int ix), .val (.long (Int64.ofNat (f eN))), .second, .val (.int (Int32.ofNat eN))] [(.ref en), (.int (Int32.ofNat eN))])) _
    refine XS.iloadN X104.here hx rfl (hb hby dWH_16) rfl ?_
    show Steps p.tables e below (T104.setTop (mkF m 17 #[.val (.ref a), .val (.int ix), .val (.long (Int64.ofNat (f eN))), .second, .val (.int (Int32.ofNat eN))] [(.int ix), (.ref en), (.int (Int32.ofNat eN))])) _
    refine X104.iaload hx (j := ix) (v := (.int (Int32.ofNat eN))) (by rw [e104]; exact Ar105.1) (State.isArrayOf_alike hZ.alike Ar105.2.1) Ar105.2.2 hin105 hat105 (g := (mkF m 17 #[.val (.ref a), .val (.int ix), .val (.long (Int64.ofNat (f eN))), .second, .val (.int (Int32.ofNat eN))] [(.int ix), (.ref en), (.int (Int32.ofNat eN))])) rfl rfl (hb hby dWH_17) _ ?_
    show Steps p.tables e below (T104.setTop (mkF m 18 #[.val (.ref a), .val (.int ix), .val (.long (Int64.ofNat (f eN))), .second, .val (.int (Int32.ofNat eN))] [(.int (Int32.ofNat eN)), (.int (Int32.ofNat eN))])) _
    refine XS.icmpYes X104.here hx rfl (pc0 := 18) (pc' := 45) rfl (hb hby dWH_18) rfl (flt (own_nlt32 (Nat.le_refl _) (by omega) : ¬ ((Int32.ofNat eN) < (Int32.ofNat eN)))).2.1 (by decide) (by decide) ?_
    show Steps p.tables e below (T104.setTop (mkF m 45 #[.val (.ref a), .val (.int ix), .val (.long (Int64.ofNat (f eN))), .second, .val (.int (Int32.ofNat eN))] [])) _
    refine XS.lloadN X104.here hx rfl (hb hby dWH_45) rfl ?_
    show Steps p.tables e below (T104.setTop (mkF m 46 #[.val (.ref a), .val (.int ix), .val (.long (Int64.ofNat (f eN))), .second, .val (.int (Int32.ofNat eN))] [(.long (Int64.ofNat (f eN)))])) _
    jvm_step X104.here [X104.here.top, hx, (hb hby dWH_46), X104.method', Bd.returns, narrow]
    first | (intro acts; rw [hr _ acts rfl rfl rfl]) | rw [hr _ _ rfl rfl rfl]
    exact Steps.refl _
  · show QU (some (.long (Int64.ofNat (f eN)))) h0 n0 _ T104.heap _
    rw [e104]
    exact ⟨rfl, N0, rfl⟩
theorem own_f0 {W : Nat} (h : W < 1000000000000000000) : (fun i => W / 10 ^ (18 - i)) 0 = 0 := Nat.div_eq_of_lt (by simpa using h)
theorem own_h0 {W pp : Nat} (hp : pp ≤ 18) (hW : W < 9223372036854775808) : ∀ j, 0 ≤ j → j < pp → own_ch W pp j = 48 + own_dg W j ∧ own_dg W j < 10 ∧ (fun i => W / 10 ^ (18 - i)) (j + 1) = (fun i => W / 10 ^ (18 - i)) j * 10 + own_dg W j ∧ (fun i => W / 10 ^ (18 - i)) (j + 1) < 9223372036854775808 := fun j _ h =>
  ⟨by unfold own_ch; rw [if_pos h], own_dg_lt _ _, own_w0 (by omega), Nat.lt_of_le_of_lt (Nat.div_le_self _ _) hW⟩
def own_F1 (W pp i : Nat) : Nat := W / 10 ^ (18 - pp - (i - (pp + 1))) % 10 ^ (i - (pp + 1))
theorem own_f1 (W pp : Nat) : own_F1 W pp (pp + 1) = 0 := by unfold own_F1; simp [Nat.mod_one]
theorem own_f1e {W pp : Nat} (h : pp ≤ 18) : own_F1 W pp 19 = W % 10 ^ (18 - pp) := by
  unfold own_F1
  have e : 19 - (pp + 1) = 18 - pp := by omega
  rw [e, Nat.sub_self]; simp
theorem own_h1 {W pp : Nat} (hp : pp ≤ 18) (hW : W < 9223372036854775808) : ∀ j, pp + 1 ≤ j → j < 19 → own_ch W pp j = 48 + (fun i => own_dg W (i - 1)) j ∧ (fun i => own_dg W (i - 1)) j < 10 ∧ own_F1 W pp (j + 1) = own_F1 W pp j * 10 + (fun i => own_dg W (i - 1)) j ∧ own_F1 W pp (j + 1) < 9223372036854775808 := fun j h1 h2 => by
  refine ⟨by unfold own_ch; rw [if_neg (by omega), if_neg (by omega)], own_dg_lt _ _, ?_, Nat.lt_of_le_of_lt (Nat.mod_le _ _) (Nat.lt_of_le_of_lt (Nat.div_le_self _ _) hW)⟩
  have e1 : j + 1 - (pp + 1) = (j - (pp + 1)) + 1 := by omega
  have e2 : j - 1 = pp + (j - (pp + 1)) := by omega
  unfold own_F1
  rw [e1, own_w1 (by omega)]
  show _ = _ * 10 + own_dg W (j - 1)
  rw [e2]
theorem ef0 (m : MethodId) (x0 : Int64) (x1 : Int32) : entryFrame m #[(.long x0), (.int x1)] maxLocals = mkF m 0 #[.val (.long x0), .second, .val (.int x1), .unset, .unset, .unset, .unset, .unset, .unset, .unset, .unset] [] := by first | (simp [entryFrame, mkF, argsToLocals, Value.category, maxLocals]; done) | rfl
def Q0 (h0 : Heap) (n0 : Nat) (v : Option Value) (h : Heap) (L : List Loc) : Prop := v = some (.int 1) ∧ Fr n0 L
set_option maxRecDepth 65536 in
set_option maxHeartbeats 40000000 in
theorem rm0 (l : Launch) (Z : State) (a0 : Array Value) (hw : ∀ d ∈ tables_1, d.before a0 Z = true) (ws : List Jvm.Cond) (p1 : Int64) (p2 G1 : Int32) (fm : Value) (h0 : Heap) (n0 : Nat) (Z0 : n0 ≤ h0.size) (O2 : Sta Z Z.heap "java/lang/String" "COMPACT_STRINGS" "Z" (.int G1)) (P5 : ¬ (G1 = (0 : Int32))) (O4 : Sta Z Z.heap "jdk/internal/util/Preconditions" "SIOOBE_FORMATTER" "Ljava/util/function/BiFunction;" fm) (rfm : fm.isRef = true) (X00 : Old Z n0 h0) :
    MetFree l x (head1 (Jvm.Cond.code x code maxLocals ret :: ws) room_1) (fun as_ U => as_ = #[(.long p1), (.int p2)] ∧ Z.Warmed39 U.vm ∧ U.heap = h0) (fun _ _ _ _ _ => True) (fun _ U o U' => ∃ v L, o = .returned v ∧ Q0 h0 n0 v U'.heap L ∧ FrameEnd U o U' L 24 640) := by
  refine MetFree.of_bodySF (plainFor_of_name pnL) hisR ?_
  intro p e s m args below meth c s₁ Bd hml0 hP hK
  obtain ⟨rfl, hZ, hh⟩ := hP
  have hx := Bd.exec
  have hby := Bd.bytes
  have hml : c.maxLocals = 11 := hml0
  have hown : s.vm.findClass "com/example/allotrope/allotrope/workload/FieldsWholePinLaw" = some m.cls := findClass_of_methodNamed Bd.named
  have hnm := (name_of_methodNamed Bd.named Bd.method).1
  have X0 : Stand p l e room_1 s m #[(.long p1), (.int p2)] below meth c s₁ [] 0 0 := Stand.of_body Bd
  have e0 : s₁.heap = h0 := by rw [← hh, Bd.state]; rfl
  have N0 := Fr.nil n0
  have go0 : ∀ tg_, Steps p.tables e below (s₁.setTop (mkF m 0 #[.val (.long p1), .second, .val (.int p2), .unset, .unset, .unset, .unset, .unset, .unset, .unset, .unset] [])) tg_ → Steps p.tables e below (s₁.setTop (entryFrame m #[(.long p1), (.int p2)] maxLocals)) tg_ := fun tg_ k => castTop (ef0 m p1 p2) k
  have hws : ∀ d ∈ StrChars.Road.words, d.before a0 Z = true := fun d hd => hw d ((by decide +kernel : ∀ d ∈ StrChars.Road.words, d ∈ tables_1) d hd)
  obtain ⟨T101, h101, k101, X101, e101, E101, A101, st101⟩ := newP X0 hx hZ (hw _ (List.mem_of_getElem? (i := 0) rfl)) e0 (g := (mkF m 2 #[.val (.long p1), .second, .val (.int p2), .unset, .unset, .unset, .unset, .unset, .unset, .unset, .unset] [(.int (19 : Int32))])) rfl (hb hby at_2) rfl (by decide) (cap := 19) (by decide) (by decide) (by decide) (by decide)
  obtain ⟨pw, g101⟩ : ∃ z, z = h0.size := ⟨_, rfl⟩
  rw [← g101] at A101 st101
  have g_pw : n0 ≤ pw := Nat.le_trans Z0 (Nat.le_of_eq g101.symm)
  have V_pw : Arv Z h101 pw k101 .long (19 : Int32) [(.long (0 : Int64)), (.long (0 : Int64)), (.long (0 : Int64)), (.long (0 : Int64)), (.long (0 : Int64)), (.long (0 : Int64)), (.long (0 : Int64)), (.long (0 : Int64)), (.long (0 : Int64)), (.long (0 : Int64)), (.long (0 : Int64)), (.long (0 : Int64)), (.long (0 : Int64)), (.long (0 : Int64)), (.long (0 : Int64)), (.long (0 : Int64)), (.long (0 : Int64)), (.long (0 : Int64)), (.long (0 : Int64))] (.long (0 : Int64)) := (Arv.new A101 (by decide)).pad (pad_rep [] (.long (0 : Int64)) 19)
  have K101 : Keep h0 h101 [] := (Keep.refl _ []).ext E101
  have lt_pw : pw < h101.size := V_pw.lt
  obtain ⟨cl102, Ar102, q102, S102, M102, Hh102, G102⟩ := id V_pw
  obtain ⟨T102, h102, X102, e102, W102, st102⟩ := stJ X101 hx hZ e101 Ar102 (j := (0 : Int32)) (inb_of S102 ⟨by decide, by decide⟩) (g := (mkF m 7 #[.val (.long p1), .second, .val (.int p2), .unset, .unset, .unset, .unset, .unset, .unset, .unset, .unset] [(.long (1 : Int64)), (.int (0 : Int32)), (.ref pw), (.ref pw)])) rfl rfl (hb hby at_7)
  have V_pw_102 : Arv Z h102 pw k101 .long (19 : Int32) [(.long (1 : Int64)), (.long (0 : Int64)), (.long (0 : Int64)), (.long (0 : Int64)), (.long (0 : Int64)), (.long (0 : Int64)), (.long (0 : Int64)), (.long (0 : Int64)), (.long (0 : Int64)), (.long (0 : Int64)), (.long (0 : Int64)), (.long (0 : Int64)), (.long (0 : Int64)), (.long (0 : Int64)), (.long (0 : Int64)), (.long (0 : Int64)), (.long (0 : Int64)), (.long (0 : Int64)), (.long (0 : Int64))] (.long (0 : Int64)) := Arv.set Ar102 q102 S102 M102 Hh102 G102 rfl W102 0 rfl (Nat.le_of_ble_eq_true rfl)
  have K102 : Keep h101 h102 [pw] := Keep.of_wr W102
  have N102 := Fr.snoc X102 N0 g_pw
  obtain ⟨cl103, Ar103, q103, S103, M103, Hh103, G103⟩ := id V_pw_102
  obtain ⟨T103, h103, X103, e103, W103, st103⟩ := stJ X102 hx hZ e102 Ar103 (j := (1 : Int32)) (inb_of S103 ⟨by decide, by decide⟩) (g := (mkF m 13 #[.val (.long p1), .second, .val (.int p2), .unset, .unset, .unset, .unset, .unset, .unset, .unset, .unset] [(.long (10 : Int64)), (.int (1 : Int32)), (.ref pw), (.ref pw)])) rfl rfl (hb hby at_13)
  have V_pw_103 : Arv Z h103 pw k101 .long (19 : Int32) [(.long (1 : Int64)), (.long (10 : Int64)), (.long (0 : Int64)), (.long (0 : Int64)), (.long (0 : Int64)), (.long (0 : Int64)), (.long (0 : Int64)), (.long (0 : Int64)), (.long (0 : Int64)), (.long (0 : Int64)), (.long (0 : Int64)), (.long (0 : Int64)), (.long (0 : Int64)), (.long (0 : Int64)), (.long (0 : Int64)), (.long (0 : Int64)), (.long (0 : Int64)), (.long (0 : Int64)), (.long (0 : Int64))] (.long (0 : Int64)) := Arv.set Ar103 q103 S103 M103 Hh103 G103 rfl W103 1 rfl (Nat.le_of_ble_eq_true rfl)
  have K103 : Keep h102 h103 [pw] := Keep.of_wr W103
  have N103 := Fr.snoc X103 N102 g_pw
  obtain ⟨cl104, Ar104, q104, S104, M104, Hh104, G104⟩ := id V_pw_103
  obtain ⟨T104, h104, X104, e104, W104, st104⟩ := stJ X103 hx hZ e103 Ar104 (j := (2 : Int32)) (inb_of S104 ⟨by decide, by decide⟩) (g := (mkF m 19 #[.val (.long p1), .second, .val (.int p2), .unset, .unset, .unset, .unset, .unset, .unset, .unset, .unset] [(.long (100 : Int64)), (.int (2 : Int32)), (.ref pw), (.ref pw)])) rfl rfl (hb hby at_19)
  have V_pw_104 : Arv Z h104 pw k101 .long (19 : Int32) [(.long (1 : Int64)), (.long (10 : Int64)), (.long (100 : Int64)), (.long (0 : Int64)), (.long (0 : Int64)), (.long (0 : Int64)), (.long (0 : Int64)), (.long (0 : Int64)), (.long (0 : Int64)), (.long (0 : Int64)), (.long (0 : Int64)), (.long (0 : Int64)), (.long (0 : Int64)), (.long (0 : Int64)), (.long (0 : Int64)), (.long (0 : Int64)), (.long (0 : Int64)), (.long (0 : Int64)), (.long (0 : Int64))] (.long (0 : Int64)) := Arv.set Ar104 q104 S104 M104 Hh104 G104 rfl W104 2 rfl (Nat.le_of_ble_eq_true rfl)
  have K104 : Keep h103 h104 [pw] := Keep.of_wr W104
  have N104 := Fr.snoc X104 N103 g_pw
  obtain ⟨cl105, Ar105, q105, S105, M105, Hh105, G105⟩ := id V_pw_104
  obtain ⟨T105, h105, X105, e105, W105, st105⟩ := stJ X104 hx hZ e104 Ar105 (j := (3 : Int32)) (inb_of S105 ⟨by decide, by decide⟩) (g := (mkF m 25 #[.val (.long p1), .second, .val (.int p2), .unset, .unset, .unset, .unset, .unset, .unset, .unset, .unset] [(.long (1000 : Int64)), (.int (3 : Int32)), (.ref pw), (.ref pw)])) rfl rfl (hb hby at_25)
  have V_pw_105 : Arv Z h105 pw k101 .long (19 : Int32) [(.long (1 : Int64)), (.long (10 : Int64)), (.long (100 : Int64)), (.long (1000 : Int64)), (.long (0 : Int64)), (.long (0 : Int64)), (.long (0 : Int64)), (.long (0 : Int64)), (.long (0 : Int64)), (.long (0 : Int64)), (.long (0 : Int64)), (.long (0 : Int64)), (.long (0 : Int64)), (.long (0 : Int64)), (.long (0 : Int64)), (.long (0 : Int64)), (.long (0 : Int64)), (.long (0 : Int64)), (.long (0 : Int64))] (.long (0 : Int64)) := Arv.set Ar105 q105 S105 M105 Hh105 G105 rfl W105 3 rfl (Nat.le_of_ble_eq_true rfl)
  have K105 : Keep h104 h105 [pw] := Keep.of_wr W105
  have N105 := Fr.snoc X105 N104 g_pw
  obtain ⟨cl106, Ar106, q106, S106, M106, Hh106, G106⟩ := id V_pw_105
  obtain ⟨T106, h106, X106, e106, W106, st106⟩ := stJ X105 hx hZ e105 Ar106 (j := (4 : Int32)) (inb_of S106 ⟨by decide, by decide⟩) (g := (mkF m 31 #[.val (.long p1), .second, .val (.int p2), .unset, .unset, .unset, .unset, .unset, .unset, .unset, .unset] [(.long (10000 : Int64)), (.int (4 : Int32)), (.ref pw), (.ref pw)])) rfl rfl (hb hby at_31)
  have V_pw_106 : Arv Z h106 pw k101 .long (19 : Int32) [(.long (1 : Int64)), (.long (10 : Int64)), (.long (100 : Int64)), (.long (1000 : Int64)), (.long (10000 : Int64)), (.long (0 : Int64)), (.long (0 : Int64)), (.long (0 : Int64)), (.long (0 : Int64)), (.long (0 : Int64)), (.long (0 : Int64)), (.long (0 : Int64)), (.long (0 : Int64)), (.long (0 : Int64)), (.long (0 : Int64)), (.long (0 : Int64)), (.long (0 : Int64)), (.long (0 : Int64)), (.long (0 : Int64))] (.long (0 : Int64)) := Arv.set Ar106 q106 S106 M106 Hh106 G106 rfl W106 4 rfl (Nat.le_of_ble_eq_true rfl)
  have K106 : Keep h105 h106 [pw] := Keep.of_wr W106
  have N106 := Fr.snoc X106 N105 g_pw
  obtain ⟨cl107, Ar107, q107, S107, M107, Hh107, G107⟩ := id V_pw_106
  obtain ⟨T107, h107, X107, e107, W107, st107⟩ := stJ X106 hx hZ e106 Ar107 (j := (5 : Int32)) (inb_of S107 ⟨by decide, by decide⟩) (g := (mkF m 37 #[.val (.long p1), .second, .val (.int p2), .unset, .unset, .unset, .unset, .unset, .unset, .unset, .unset] [(.long (100000 : Int64)), (.int (5 : Int32)), (.ref pw), (.ref pw)])) rfl rfl (hb hby at_37)
  have V_pw_107 : Arv Z h107 pw k101 .long (19 : Int32) [(.long (1 : Int64)), (.long (10 : Int64)), (.long (100 : Int64)), (.long (1000 : Int64)), (.long (10000 : Int64)), (.long (100000 : Int64)), (.long (0 : Int64)), (.long (0 : Int64)), (.long (0 : Int64)), (.long (0 : Int64)), (.long (0 : Int64)), (.long (0 : Int64)), (.long (0 : Int64)), (.long (0 : Int64)), (.long (0 : Int64)), (.long (0 : Int64)), (.long (0 : Int64)), (.long (0 : Int64)), (.long (0 : Int64))] (.long (0 : Int64)) := Arv.set Ar107 q107 S107 M107 Hh107 G107 rfl W107 5 rfl (Nat.le_of_ble_eq_true rfl)
  have K107 : Keep h106 h107 [pw] := Keep.of_wr W107
  have N107 := Fr.snoc X107 N106 g_pw
  obtain ⟨cl108, Ar108, q108, S108, M108, Hh108, G108⟩ := id V_pw_107
  obtain ⟨T108, h108, X108, e108, W108, st108⟩ := stJ X107 hx hZ e107 Ar108 (j := (6 : Int32)) (inb_of S108 ⟨by decide, by decide⟩) (g := (mkF m 44 #[.val (.long p1), .second, .val (.int p2), .unset, .unset, .unset, .unset, .unset, .unset, .unset, .unset] [(.long (1000000 : Int64)), (.int (6 : Int32)), (.ref pw), (.ref pw)])) rfl rfl (hb hby at_44)
  have V_pw_108 : Arv Z h108 pw k101 .long (19 : Int32) [(.long (1 : Int64)), (.long (10 : Int64)), (.long (100 : Int64)), (.long (1000 : Int64)), (.long (10000 : Int64)), (.long (100000 : Int64)), (.long (1000000 : Int64)), (.long (0 : Int64)), (.long (0 : Int64)), (.long (0 : Int64)), (.long (0 : Int64)), (.long (0 : Int64)), (.long (0 : Int64)), (.long (0 : Int64)), (.long (0 : Int64)), (.long (0 : Int64)), (.long (0 : Int64)), (.long (0 : Int64)), (.long (0 : Int64))] (.long (0 : Int64)) := Arv.set Ar108 q108 S108 M108 Hh108 G108 rfl W108 6 rfl (Nat.le_of_ble_eq_true rfl)
  have K108 : Keep h107 h108 [pw] := Keep.of_wr W108
  have N108 := Fr.snoc X108 N107 g_pw
  obtain ⟨cl109, Ar109, q109, S109, M109, Hh109, G109⟩ := id V_pw_108
  obtain ⟨T109, h109, X109, e109, W109, st109⟩ := stJ X108 hx hZ e108 Ar109 (j := (7 : Int32)) (inb_of S109 ⟨by decide, by decide⟩) (g := (mkF m 51 #[.val (.long p1), .second, .val (.int p2), .unset, .unset, .unset, .unset, .unset, .unset, .unset, .unset] [(.long (10000000 : Int64)), (.int (7 : Int32)), (.ref pw), (.ref pw)])) rfl rfl (hb hby at_51)
  have V_pw_109 : Arv Z h109 pw k101 .long (19 : Int32) [(.long (1 : Int64)), (.long (10 : Int64)), (.long (100 : Int64)), (.long (1000 : Int64)), (.long (10000 : Int64)), (.long (100000 : Int64)), (.long (1000000 : Int64)), (.long (10000000 : Int64)), (.long (0 : Int64)), (.long (0 : Int64)), (.long (0 : Int64)), (.long (0 : Int64)), (.long (0 : Int64)), (.long (0 : Int64)), (.long (0 : Int64)), (.long (0 : Int64)), (.long (0 : Int64)), (.long (0 : Int64)), (.long (0 : Int64))] (.long (0 : Int64)) := Arv.set Ar109 q109 S109 M109 Hh109 G109 rfl W109 7 rfl (Nat.le_of_ble_eq_true rfl)
  have K109 : Keep h108 h109 [pw] := Keep.of_wr W109
  have N109 := Fr.snoc X109 N108 g_pw
  obtain ⟨cl110, Ar110, q110, S110, M110, Hh110, G110⟩ := id V_pw_109
  obtain ⟨T110, h110, X110, e110, W110, st110⟩ := stJ X109 hx hZ e109 Ar110 (j := (8 : Int32)) (inb_of S110 ⟨by decide, by decide⟩) (g := (mkF m 58 #[.val (.long p1), .second, .val (.int p2), .unset, .unset, .unset, .unset, .unset, .unset, .unset, .unset] [(.long (100000000 : Int64)), (.int (8 : Int32)), (.ref pw), (.ref pw)])) rfl rfl (hb hby at_58)
  have V_pw_110 : Arv Z h110 pw k101 .long (19 : Int32) [(.long (1 : Int64)), (.long (10 : Int64)), (.long (100 : Int64)), (.long (1000 : Int64)), (.long (10000 : Int64)), (.long (100000 : Int64)), (.long (1000000 : Int64)), (.long (10000000 : Int64)), (.long (100000000 : Int64)), (.long (0 : Int64)), (.long (0 : Int64)), (.long (0 : Int64)), (.long (0 : Int64)), (.long (0 : Int64)), (.long (0 : Int64)), (.long (0 : Int64)), (.long (0 : Int64)), (.long (0 : Int64)), (.long (0 : Int64))] (.long (0 : Int64)) := Arv.set Ar110 q110 S110 M110 Hh110 G110 rfl W110 8 rfl (Nat.le_of_ble_eq_true rfl)
  have K110 : Keep h109 h110 [pw] := Keep.of_wr W110
  have N110 := Fr.snoc X110 N109 g_pw
  obtain ⟨cl111, Ar111, q111, S111, M111, Hh111, G111⟩ := id V_pw_110
  obtain ⟨T111, h111, X111, e111, W111, st111⟩ := stJ X110 hx hZ e110 Ar111 (j := (9 : Int32)) (inb_of S111 ⟨by decide, by decide⟩) (g := (mkF m 65 #[.val (.long p1), .second, .val (.int p2), .unset, .unset, .unset, .unset, .unset, .unset, .unset, .unset] [(.long (1000000000 : Int64)), (.int (9 : Int32)), (.ref pw), (.ref pw)])) rfl rfl (hb hby at_65)
  have V_pw_111 : Arv Z h111 pw k101 .long (19 : Int32) [(.long (1 : Int64)), (.long (10 : Int64)), (.long (100 : Int64)), (.long (1000 : Int64)), (.long (10000 : Int64)), (.long (100000 : Int64)), (.long (1000000 : Int64)), (.long (10000000 : Int64)), (.long (100000000 : Int64)), (.long (1000000000 : Int64)), (.long (0 : Int64)), (.long (0 : Int64)), (.long (0 : Int64)), (.long (0 : Int64)), (.long (0 : Int64)), (.long (0 : Int64)), (.long (0 : Int64)), (.long (0 : Int64)), (.long (0 : Int64))] (.long (0 : Int64)) := Arv.set Ar111 q111 S111 M111 Hh111 G111 rfl W111 9 rfl (Nat.le_of_ble_eq_true rfl)
  have K111 : Keep h110 h111 [pw] := Keep.of_wr W111
  have N111 := Fr.snoc X111 N110 g_pw
  obtain ⟨cl112, Ar112, q112, S112, M112, Hh112, G112⟩ := id V_pw_111
  obtain ⟨T112, h112, X112, e112, W112, st112⟩ := stJ X111 hx hZ e111 Ar112 (j := (10 : Int32)) (inb_of S112 ⟨by decide, by decide⟩) (g := (mkF m 72 #[.val (.long p1), .second, .val (.int p2), .unset, .unset, .unset, .unset, .unset, .unset, .unset, .unset] [(.long (10000000000 : Int64)), (.int (10 : Int32)), (.ref pw), (.ref pw)])) rfl rfl (hb hby at_72)
  have V_pw_112 : Arv Z h112 pw k101 .long (19 : Int32) [(.long (1 : Int64)), (.long (10 : Int64)), (.long (100 : Int64)), (.long (1000 : Int64)), (.long (10000 : Int64)), (.long (100000 : Int64)), (.long (1000000 : Int64)), (.long (10000000 : Int64)), (.long (100000000 : Int64)), (.long (1000000000 : Int64)), (.long (10000000000 : Int64)), (.long (0 : Int64)), (.long (0 : Int64)), (.long (0 : Int64)), (.long (0 : Int64)), (.long (0 : Int64)), (.long (0 : Int64)), (.long (0 : Int64)), (.long (0 : Int64))] (.long (0 : Int64)) := Arv.set Ar112 q112 S112 M112 Hh112 G112 rfl W112 10 rfl (Nat.le_of_ble_eq_true rfl)
  have K112 : Keep h111 h112 [pw] := Keep.of_wr W112
  have N112 := Fr.snoc X112 N111 g_pw
  obtain ⟨cl113, Ar113, q113, S113, M113, Hh113, G113⟩ := id V_pw_112
  obtain ⟨T113, h113, X113, e113, W113, st113⟩ := stJ X112 hx hZ e112 Ar113 (j := (11 : Int32)) (inb_of S113 ⟨by decide, by decide⟩) (g := (mkF m 79 #[.val (.long p1), .second, .val (.int p2), .unset, .unset, .unset, .unset, .unset, .unset, .unset, .unset] [(.long (100000000000 : Int64)), (.int (11 : Int32)), (.ref pw), (.ref pw)])) rfl rfl (hb hby at_79)
  have V_pw_113 : Arv Z h113 pw k101 .long (19 : Int32) [(.long (1 : Int64)), (.long (10 : Int64)), (.long (100 : Int64)), (.long (1000 : Int64)), (.long (10000 : Int64)), (.long (100000 : Int64)), (.long (1000000 : Int64)), (.long (10000000 : Int64)), (.long (100000000 : Int64)), (.long (1000000000 : Int64)), (.long (10000000000 : Int64)), (.long (100000000000 : Int64)), (.long (0 : Int64)), (.long (0 : Int64)), (.long (0 : Int64)), (.long (0 : Int64)), (.long (0 : Int64)), (.long (0 : Int64)), (.long (0 : Int64))] (.long (0 : Int64)) := Arv.set Ar113 q113 S113 M113 Hh113 G113 rfl W113 11 rfl (Nat.le_of_ble_eq_true rfl)
  have K113 : Keep h112 h113 [pw] := Keep.of_wr W113
  have N113 := Fr.snoc X113 N112 g_pw
  obtain ⟨cl114, Ar114, q114, S114, M114, Hh114, G114⟩ := id V_pw_113
  obtain ⟨T114, h114, X114, e114, W114, st114⟩ := stJ X113 hx hZ e113 Ar114 (j := (12 : Int32)) (inb_of S114 ⟨by decide, by decide⟩) (g := (mkF m 86 #[.val (.long p1), .second, .val (.int p2), .unset, .unset, .unset, .unset, .unset, .unset, .unset, .unset] [(.long (1000000000000 : Int64)), (.int (12 : Int32)), (.ref pw), (.ref pw)])) rfl rfl (hb hby at_86)
  have V_pw_114 : Arv Z h114 pw k101 .long (19 : Int32) [(.long (1 : Int64)), (.long (10 : Int64)), (.long (100 : Int64)), (.long (1000 : Int64)), (.long (10000 : Int64)), (.long (100000 : Int64)), (.long (1000000 : Int64)), (.long (10000000 : Int64)), (.long (100000000 : Int64)), (.long (1000000000 : Int64)), (.long (10000000000 : Int64)), (.long (100000000000 : Int64)), (.long (1000000000000 : Int64)), (.long (0 : Int64)), (.long (0 : Int64)), (.long (0 : Int64)), (.long (0 : Int64)), (.long (0 : Int64)), (.long (0 : Int64))] (.long (0 : Int64)) := Arv.set Ar114 q114 S114 M114 Hh114 G114 rfl W114 12 rfl (Nat.le_of_ble_eq_true rfl)
  have K114 : Keep h113 h114 [pw] := Keep.of_wr W114
  have N114 := Fr.snoc X114 N113 g_pw
  obtain ⟨cl115, Ar115, q115, S115, M115, Hh115, G115⟩ := id V_pw_114
  obtain ⟨T115, h115, X115, e115, W115, st115⟩ := stJ X114 hx hZ e114 Ar115 (j := (13 : Int32)) (inb_of S115 ⟨by decide, by decide⟩) (g := (mkF m 93 #[.val (.long p1), .second, .val (.int p2), .unset, .unset, .unset, .unset, .unset, .unset, .unset, .unset] [(.long (10000000000000 : Int64)), (.int (13 : Int32)), (.ref pw), (.ref pw)])) rfl rfl (hb hby at_93)
  have V_pw_115 : Arv Z h115 pw k101 .long (19 : Int32) [(.long (1 : Int64)), (.long (10 : Int64)), (.long (100 : Int64)), (.long (1000 : Int64)), (.long (10000 : Int64)), (.long (100000 : Int64)), (.long (1000000 : Int64)), (.long (10000000 : Int64)), (.long (100000000 : Int64)), (.long (1000000000 : Int64)), (.long (10000000000 : Int64)), (.long (100000000000 : Int64)), (.long (1000000000000 : Int64)), (.long (10000000000000 : Int64)), (.long (0 : Int64)), (.long (0 : Int64)), (.long (0 : Int64)), (.long (0 : Int64)), (.long (0 : Int64))] (.long (0 : Int64)) := Arv.set Ar115 q115 S115 M115 Hh115 G115 rfl W115 13 rfl (Nat.le_of_ble_eq_true rfl)
  have K115 : Keep h114 h115 [pw] := Keep.of_wr W115
  have N115 := Fr.snoc X115 N114 g_pw
  obtain ⟨cl116, Ar116, q116, S116, M116, Hh116, G116⟩ := id V_pw_115
  obtain ⟨T116, h116, X116, e116, W116, st116⟩ := stJ X115 hx hZ e115 Ar116 (j := (14 : Int32)) (inb_of S116 ⟨by decide, by decide⟩) (g := (mkF m 100 #[.val (.long p1), .second, .val (.int p2), .unset, .unset, .unset, .unset, .unset, .unset, .unset, .unset] [(.long (100000000000000 : Int64)), (.int (14 : Int32)), (.ref pw), (.ref pw)])) rfl rfl (hb hby at_100)
  have V_pw_116 : Arv Z h116 pw k101 .long (19 : Int32) [(.long (1 : Int64)), (.long (10 : Int64)), (.long (100 : Int64)), (.long (1000 : Int64)), (.long (10000 : Int64)), (.long (100000 : Int64)), (.long (1000000 : Int64)), (.long (10000000 : Int64)), (.long (100000000 : Int64)), (.long (1000000000 : Int64)), (.long (10000000000 : Int64)), (.long (100000000000 : Int64)), (.long (1000000000000 : Int64)), (.long (10000000000000 : Int64)), (.long (100000000000000 : Int64)), (.long (0 : Int64)), (.long (0 : Int64)), (.long (0 : Int64)), (.long (0 : Int64))] (.long (0 : Int64)) := Arv.set Ar116 q116 S116 M116 Hh116 G116 rfl W116 14 rfl (Nat.le_of_ble_eq_true rfl)
  have K116 : Keep h115 h116 [pw] := Keep.of_wr W116
  have N116 := Fr.snoc X116 N115 g_pw
  obtain ⟨cl117, Ar117, q117, S117, M117, Hh117, G117⟩ := id V_pw_116
  obtain ⟨T117, h117, X117, e117, W117, st117⟩ := stJ X116 hx hZ e116 Ar117 (j := (15 : Int32)) (inb_of S117 ⟨by decide, by decide⟩) (g := (mkF m 107 #[.val (.long p1), .second, .val (.int p2), .unset, .unset, .unset, .unset, .unset, .unset, .unset, .unset] [(.long (1000000000000000 : Int64)), (.int (15 : Int32)), (.ref pw), (.ref pw)])) rfl rfl (hb hby at_107)
  have V_pw_117 : Arv Z h117 pw k101 .long (19 : Int32) [(.long (1 : Int64)), (.long (10 : Int64)), (.long (100 : Int64)), (.long (1000 : Int64)), (.long (10000 : Int64)), (.long (100000 : Int64)), (.long (1000000 : Int64)), (.long (10000000 : Int64)), (.long (100000000 : Int64)), (.long (1000000000 : Int64)), (.long (10000000000 : Int64)), (.long (100000000000 : Int64)), (.long (1000000000000 : Int64)), (.long (10000000000000 : Int64)), (.long (100000000000000 : Int64)), (.long (1000000000000000 : Int64)), (.long (0 : Int64)), (.long (0 : Int64)), (.long (0 : Int64))] (.long (0 : Int64)) := Arv.set Ar117 q117 S117 M117 Hh117 G117 rfl W117 15 rfl (Nat.le_of_ble_eq_true rfl)
  have K117 : Keep h116 h117 [pw] := Keep.of_wr W117
  have N117 := Fr.snoc X117 N116 g_pw
  obtain ⟨cl118, Ar118, q118, S118, M118, Hh118, G118⟩ := id V_pw_117
  obtain ⟨T118, h118, X118, e118, W118, st118⟩ := stJ X117 hx hZ e117 Ar118 (j := (16 : Int32)) (inb_of S118 ⟨by decide, by decide⟩) (g := (mkF m 114 #[.val (.long p1), .second, .val (.int p2), .unset, .unset, .unset, .unset, .unset, .unset, .unset, .unset] [(.long (10000000000000000 : Int64)), (.int (16 : Int32)), (.ref pw), (.ref pw)])) rfl rfl (hb hby at_114)
  have V_pw_118 : Arv Z h118 pw k101 .long (19 : Int32) [(.long (1 : Int64)), (.long (10 : Int64)), (.long (100 : Int64)), (.long (1000 : Int64)), (.long (10000 : Int64)), (.long (100000 : Int64)), (.long (1000000 : Int64)), (.long (10000000 : Int64)), (.long (100000000 : Int64)), (.long (1000000000 : Int64)), (.long (10000000000 : Int64)), (.long (100000000000 : Int64)), (.long (1000000000000 : Int64)), (.long (10000000000000 : Int64)), (.long (100000000000000 : Int64)), (.long (1000000000000000 : Int64)), (.long (10000000000000000 : Int64)), (.long (0 : Int64)), (.long (0 : Int64))] (.long (0 : Int64)) := Arv.set Ar118 q118 S118 M118 Hh118 G118 rfl W118 16 rfl (Nat.le_of_ble_eq_true rfl)
  have K118 : Keep h117 h118 [pw] := Keep.of_wr W118
  have N118 := Fr.snoc X118 N117 g_pw
  obtain ⟨cl119, Ar119, q119, S119, M119, Hh119, G119⟩ := id V_pw_118
  obtain ⟨T119, h119, X119, e119, W119, st119⟩ := stJ X118 hx hZ e118 Ar119 (j := (17 : Int32)) (inb_of S119 ⟨by decide, by decide⟩) (g := (mkF m 121 #[.val (.long p1), .second, .val (.int p2), .unset, .unset, .unset, .unset, .unset, .unset, .unset, .unset] [(.long (100000000000000000 : Int64)), (.int (17 : Int32)), (.ref pw), (.ref pw)])) rfl rfl (hb hby at_121)
  have V_pw_119 : Arv Z h119 pw k101 .long (19 : Int32) [(.long (1 : Int64)), (.long (10 : Int64)), (.long (100 : Int64)), (.long (1000 : Int64)), (.long (10000 : Int64)), (.long (100000 : Int64)), (.long (1000000 : Int64)), (.long (10000000 : Int64)), (.long (100000000 : Int64)), (.long (1000000000 : Int64)), (.long (10000000000 : Int64)), (.long (100000000000 : Int64)), (.long (1000000000000 : Int64)), (.long (10000000000000 : Int64)), (.long (100000000000000 : Int64)), (.long (1000000000000000 : Int64)), (.long (10000000000000000 : Int64)), (.long (100000000000000000 : Int64)), (.long (0 : Int64))] (.long (0 : Int64)) := Arv.set Ar119 q119 S119 M119 Hh119 G119 rfl W119 17 rfl (Nat.le_of_ble_eq_true rfl)
  have K119 : Keep h118 h119 [pw] := Keep.of_wr W119
  have N119 := Fr.snoc X119 N118 g_pw
  obtain ⟨cl120, Ar120, q120, S120, M120, Hh120, G120⟩ := id V_pw_119
  obtain ⟨T120, h120, X120, e120, W120, st120⟩ := stJ X119 hx hZ e119 Ar120 (j := (18 : Int32)) (inb_of S120 ⟨by decide, by decide⟩) (g := (mkF m 128 #[.val (.long p1), .second, .val (.int p2), .unset, .unset, .unset, .unset, .unset, .unset, .unset, .unset] [(.long (1000000000000000000 : Int64)), (.int (18 : Int32)), (.ref pw), (.ref pw)])) rfl rfl (hb hby at_128)
  have V_pw_120 : Arv Z h120 pw k101 .long (19 : Int32) [(.long (1 : Int64)), (.long (10 : Int64)), (.long (100 : Int64)), (.long (1000 : Int64)), (.long (10000 : Int64)), (.long (100000 : Int64)), (.long (1000000 : Int64)), (.long (10000000 : Int64)), (.long (100000000 : Int64)), (.long (1000000000 : Int64)), (.long (10000000000 : Int64)), (.long (100000000000 : Int64)), (.long (1000000000000 : Int64)), (.long (10000000000000 : Int64)), (.long (100000000000000 : Int64)), (.long (1000000000000000 : Int64)), (.long (10000000000000000 : Int64)), (.long (100000000000000000 : Int64)), (.long (1000000000000000000 : Int64))] (.long (0 : Int64)) := Arv.set Ar120 q120 S120 M120 Hh120 G120 rfl W120 18 rfl (Nat.le_of_ble_eq_true rfl)
  have K120 : Keep h119 h120 [pw] := Keep.of_wr W120
  have N120 := Fr.snoc X120 N119 g_pw
  have VPW : Arv Z h120 pw k101 .long (19 : Int32) own_PW (.long (0 : Int64)) := V_pw_120
  obtain ⟨cl121, Ar121, q121, S121, M121, Hh121, G121⟩ := id VPW
  have hin121 : ¬ ((18 : Int32) < 0 ∨ cl121.slots.size ≤ ((18 : Int32)).toNatClampNeg) := inb_of S121 ⟨by decide, by decide⟩
  have hat121 : cl121.slots[((18 : Int32)).toNatClampNeg]? = some (.long (1000000000000000000 : Int64)) := Has.at Hh121 hin121 (rfl)
  have go122 : ∀ tg_, Steps p.tables e below (T120.setTop (mkF m 140 #[.val (.long p1), .second, .val (.int p2), .val (.ref pw), .unset, .unset, .unset, .unset, .unset, .unset, .unset] [(.long ((p1 &&& (9223372036854775807 : Int64)) - ((p1 &&& (9223372036854775807 : Int64)) / (1000000000000000000 : Int64)) * (1000000000000000000 : Int64)))])) tg_ → Steps p.tables e below (s₁.setTop (entryFrame m #[(.long p1), (.int p2)] maxLocals)) tg_ := fun tg_ k => go0 tg_ (by
      show Steps p.tables e below (s₁.setTop (mkF m 0 #[.val (.long p1), .second, .val (.int p2), .unset, .unset, .unset, .unset, .unset, .unset, .unset, .unset] [])) _
      refine XS.bipush X0.here hx rfl (hb hby at_0) ?_
      show Steps p.tables e below (s₁.setTop (mkF m 2 #[.val (.long p1), .second, .val (.int p2), .unset, .unset, .unset, .unset, .unset, .unset, .unset, .unset] [(.int (19 : Int32))])) _
      refine st101 _ ?_
      show Steps p.tables e below (T101.setTop (mkF m 4 #[.val (.long p1), .second, .val (.int p2), .unset, .unset, .unset, .unset, .unset, .unset, .unset, .unset] [(.ref pw)])) _
      refine XS.dup X101.here hx rfl (hb hby at_4) rfl rfl ?_
      show Steps p.tables e below (T101.setTop (mkF m 5 #[.val (.long p1), .second, .val (.int p2), .unset, .unset, .unset, .unset, .unset, .unset, .unset, .unset] [(.ref pw), (.ref pw)])) _
      refine XS.iconst X101.here hx rfl (hb hby at_5) ?_
      show Steps p.tables e below (T101.setTop (mkF m 6 #[.val (.long p1), .second, .val (.int p2), .unset, .unset, .unset, .unset, .unset, .unset, .unset, .unset] [(.int (0 : Int32)), (.ref pw), (.ref pw)])) _
      refine XS.lconst X101.here hx rfl (hb hby at_6) ?_
      show Steps p.tables e below (T101.setTop (mkF m 7 #[.val (.long p1), .second, .val (.int p2), .unset, .unset, .unset, .unset, .unset, .unset, .unset, .unset] [(.long (1 : Int64)), (.int (0 : Int32)), (.ref pw), (.ref pw)])) _
      refine st102 _ ?_
      show Steps p.tables e below (T102.setTop (mkF m 8 #[.val (.long p1), .second, .val (.int p2), .unset, .unset, .unset, .unset, .unset, .unset, .unset, .unset] [(.ref pw)])) _
      refine XS.dup X102.here hx rfl (hb hby at_8) rfl rfl ?_
      show Steps p.tables e below (T102.setTop (mkF m 9 #[.val (.long p1), .second, .val (.int p2), .unset, .unset, .unset, .unset, .unset, .unset, .unset, .unset] [(.ref pw), (.ref pw)])) _
      refine XS.iconst X102.here hx rfl (hb hby at_9) ?_
      show Steps p.tables e below (T102.setTop (mkF m 10 #[.val (.long p1), .second, .val (.int p2), .unset, .unset, .unset, .unset, .unset, .unset, .unset, .unset] [(.int (1 : Int32)), (.ref pw), (.ref pw)])) _
      refine X102.ldc2Long hx hown (mvT hZ (hw _ (List.mem_of_getElem? (i := 1) rfl))) (g := (mkF m 10 #[.val (.long p1), .second, .val (.int p2), .unset, .unset, .unset, .unset, .unset, .unset, .unset, .unset] [(.int (1 : Int32)), (.ref pw), (.ref pw)])) rfl (hb hby at_10) _ ?_
      show Steps p.tables e below (T102.setTop (mkF m 13 #[.val (.long p1), .second, .val (.int p2), .unset, .unset, .unset, .unset, .unset, .unset, .unset, .unset] [(.long (10 : Int64)), (.int (1 : Int32)), (.ref pw), (.ref pw)])) _
      refine st103 _ ?_
      show Steps p.tables e below (T103.setTop (mkF m 14 #[.val (.long p1), .second, .val (.int p2), .unset, .unset, .unset, .unset, .unset, .unset, .unset, .unset] [(.ref pw)])) _
      refine XS.dup X103.here hx rfl (hb hby at_14) rfl rfl ?_
      show Steps p.tables e below (T103.setTop (mkF m 15 #[.val (.long p1), .second, .val (.int p2), .unset, .unset, .unset, .unset, .unset, .unset, .unset, .unset] [(.ref pw), (.ref pw)])) _
      refine XS.iconst X103.here hx rfl (hb hby at_15) ?_
      show Steps p.tables e below (T103.setTop (mkF m 16 #[.val (.long p1), .second, .val (.int p2), .unset, .unset, .unset, .unset, .unset, .unset, .unset, .unset] [(.int (2 : Int32)), (.ref pw), (.ref pw)])) _
      refine X103.ldc2Long hx hown (mvT hZ (hw _ (List.mem_of_getElem? (i := 2) rfl))) (g := (mkF m 16 #[.val (.long p1), .second, .val (.int p2), .unset, .unset, .unset, .unset, .unset, .unset, .unset, .unset] [(.int (2 : Int32)), (.ref pw), (.ref pw)])) rfl (hb hby at_16) _ ?_
      show Steps p.tables e below (T103.setTop (mkF m 19 #[.val (.long p1), .second, .val (.int p2), .unset, .unset, .unset, .unset, .unset, .unset, .unset, .unset] [(.long (100 : Int64)), (.int (2 : Int32)), (.ref pw), (.ref pw)])) _
      refine st104 _ ?_
      show Steps p.tables e below (T104.setTop (mkF m 20 #[.val (.long p1), .second, .val (.int p2), .unset, .unset, .unset, .unset, .unset, .unset, .unset, .unset] [(.ref pw)])) _
      refine XS.dup X104.here hx rfl (hb hby at_20) rfl rfl ?_
      show Steps p.tables e below (T104.setTop (mkF m 21 #[.val (.long p1), .second, .val (.int p2), .unset, .unset, .unset, .unset, .unset, .unset, .unset, .unset] [(.ref pw), (.ref pw)])) _
      refine XS.iconst X104.here hx rfl (hb hby at_21) ?_
      show Steps p.tables e below (T104.setTop (mkF m 22 #[.val (.long p1), .second, .val (.int p2), .unset, .unset, .unset, .unset, .unset, .unset, .unset, .unset] [(.int (3 : Int32)), (.ref pw), (.ref pw)])) _
      refine X104.ldc2Long hx hown (mvT hZ (hw _ (List.mem_of_getElem? (i := 3) rfl))) (g := (mkF m 22 #[.val (.long p1), .second, .val (.int p2), .unset, .unset, .unset, .unset, .unset, .unset, .unset, .unset] [(.int (3 : Int32)), (.ref pw), (.ref pw)])) rfl (hb hby at_22) _ ?_
      show Steps p.tables e below (T104.setTop (mkF m 25 #[.val (.long p1), .second, .val (.int p2), .unset, .unset, .unset, .unset, .unset, .unset, .unset, .unset] [(.long (1000 : Int64)), (.int (3 : Int32)), (.ref pw), (.ref pw)])) _
      refine st105 _ ?_
      show Steps p.tables e below (T105.setTop (mkF m 26 #[.val (.long p1), .second, .val (.int p2), .unset, .unset, .unset, .unset, .unset, .unset, .unset, .unset] [(.ref pw)])) _
      refine XS.dup X105.here hx rfl (hb hby at_26) rfl rfl ?_
      show Steps p.tables e below (T105.setTop (mkF m 27 #[.val (.long p1), .second, .val (.int p2), .unset, .unset, .unset, .unset, .unset, .unset, .unset, .unset] [(.ref pw), (.ref pw)])) _
      refine XS.iconst X105.here hx rfl (hb hby at_27) ?_
      show Steps p.tables e below (T105.setTop (mkF m 28 #[.val (.long p1), .second, .val (.int p2), .unset, .unset, .unset, .unset, .unset, .unset, .unset, .unset] [(.int (4 : Int32)), (.ref pw), (.ref pw)])) _
      refine X105.ldc2Long hx hown (mvT hZ (hw _ (List.mem_of_getElem? (i := 4) rfl))) (g := (mkF m 28 #[.val (.long p1), .second, .val (.int p2), .unset, .unset, .unset, .unset, .unset, .unset, .unset, .unset] [(.int (4 : Int32)), (.ref pw), (.ref pw)])) rfl (hb hby at_28) _ ?_
      show Steps p.tables e below (T105.setTop (mkF m 31 #[.val (.long p1), .second, .val (.int p2), .unset, .unset, .unset, .unset, .unset, .unset, .unset, .unset] [(.long (10000 : Int64)), (.int (4 : Int32)), (.ref pw), (.ref pw)])) _
      refine st106 _ ?_
      show Steps p.tables e below (T106.setTop (mkF m 32 #[.val (.long p1), .second, .val (.int p2), .unset, .unset, .unset, .unset, .unset, .unset, .unset, .unset] [(.ref pw)])) _
      refine XS.dup X106.here hx rfl (hb hby at_32) rfl rfl ?_
      show Steps p.tables e below (T106.setTop (mkF m 33 #[.val (.long p1), .second, .val (.int p2), .unset, .unset, .unset, .unset, .unset, .unset, .unset, .unset] [(.ref pw), (.ref pw)])) _
      refine XS.iconst X106.here hx rfl (hb hby at_33) ?_
      show Steps p.tables e below (T106.setTop (mkF m 34 #[.val (.long p1), .second, .val (.int p2), .unset, .unset, .unset, .unset, .unset, .unset, .unset, .unset] [(.int (5 : Int32)), (.ref pw), (.ref pw)])) _
      refine X106.ldc2Long hx hown (mvT hZ (hw _ (List.mem_of_getElem? (i := 5) rfl))) (g := (mkF m 34 #[.val (.long p1), .second, .val (.int p2), .unset, .unset, .unset, .unset, .unset, .unset, .unset, .unset] [(.int (5 : Int32)), (.ref pw), (.ref pw)])) rfl (hb hby at_34) _ ?_
      show Steps p.tables e below (T106.setTop (mkF m 37 #[.val (.long p1), .second, .val (.int p2), .unset, .unset, .unset, .unset, .unset, .unset, .unset, .unset] [(.long (100000 : Int64)), (.int (5 : Int32)), (.ref pw), (.ref pw)])) _
      refine st107 _ ?_
      show Steps p.tables e below (T107.setTop (mkF m 38 #[.val (.long p1), .second, .val (.int p2), .unset, .unset, .unset, .unset, .unset, .unset, .unset, .unset] [(.ref pw)])) _
      refine XS.dup X107.here hx rfl (hb hby at_38) rfl rfl ?_
      show Steps p.tables e below (T107.setTop (mkF m 39 #[.val (.long p1), .second, .val (.int p2), .unset, .unset, .unset, .unset, .unset, .unset, .unset, .unset] [(.ref pw), (.ref pw)])) _
      refine XS.bipush X107.here hx rfl (hb hby at_39) ?_
      show Steps p.tables e below (T107.setTop (mkF m 41 #[.val (.long p1), .second, .val (.int p2), .unset, .unset, .unset, .unset, .unset, .unset, .unset, .unset] [(.int (6 : Int32)), (.ref pw), (.ref pw)])) _
      refine X107.ldc2Long hx hown (mvT hZ (hw _ (List.mem_of_getElem? (i := 6) rfl))) (g := (mkF m 41 #[.val (.long p1), .second, .val (.int p2), .unset, .unset, .unset, .unset, .unset, .unset, .unset, .unset] [(.int (6 : Int32)), (.ref pw), (.ref pw)])) rfl (hb hby at_41) _ ?_
      show Steps p.tables e below (T107.setTop (mkF m 44 #[.val (.long p1), .second, .val (.int p2), .unset, .unset, .unset, .unset, .unset, .unset, .unset, .unset] [(.long (1000000 : Int64)), (.int (6 : Int32)), (.ref pw), (.ref pw)])) _
      refine st108 _ ?_
      show Steps p.tables e below (T108.setTop (mkF m 45 #[.val (.long p1), .second, .val (.int p2), .unset, .unset, .unset, .unset, .unset, .unset, .unset, .unset] [(.ref pw)])) _
      refine XS.dup X108.here hx rfl (hb hby at_45) rfl rfl ?_
      show Steps p.tables e below (T108.setTop (mkF m 46 #[.val (.long p1), .second, .val (.int p2), .unset, .unset, .unset, .unset, .unset, .unset, .unset, .unset] [(.ref pw), (.ref pw)])) _
      refine XS.bipush X108.here hx rfl (hb hby at_46) ?_
      show Steps p.tables e below (T108.setTop (mkF m 48 #[.val (.long p1), .second, .val (.int p2), .unset, .unset, .unset, .unset, .unset, .unset, .unset, .unset] [(.int (7 : Int32)), (.ref pw), (.ref pw)])) _
      refine X108.ldc2Long hx hown (mvT hZ (hw _ (List.mem_of_getElem? (i := 7) rfl))) (g := (mkF m 48 #[.val (.long p1), .second, .val (.int p2), .unset, .unset, .unset, .unset, .unset, .unset, .unset, .unset] [(.int (7 : Int32)), (.ref pw), (.ref pw)])) rfl (hb hby at_48) _ ?_
      show Steps p.tables e below (T108.setTop (mkF m 51 #[.val (.long p1), .second, .val (.int p2), .unset, .unset, .unset, .unset, .unset, .unset, .unset, .unset] [(.long (10000000 : Int64)), (.int (7 : Int32)), (.ref pw), (.ref pw)])) _
      refine st109 _ ?_
      show Steps p.tables e below (T109.setTop (mkF m 52 #[.val (.long p1), .second, .val (.int p2), .unset, .unset, .unset, .unset, .unset, .unset, .unset, .unset] [(.ref pw)])) _
      refine XS.dup X109.here hx rfl (hb hby at_52) rfl rfl ?_
      show Steps p.tables e below (T109.setTop (mkF m 53 #[.val (.long p1), .second, .val (.int p2), .unset, .unset, .unset, .unset, .unset, .unset, .unset, .unset] [(.ref pw), (.ref pw)])) _
      refine XS.bipush X109.here hx rfl (hb hby at_53) ?_
      show Steps p.tables e below (T109.setTop (mkF m 55 #[.val (.long p1), .second, .val (.int p2), .unset, .unset, .unset, .unset, .unset, .unset, .unset, .unset] [(.int (8 : Int32)), (.ref pw), (.ref pw)])) _
      refine X109.ldc2Long hx hown (mvT hZ (hw _ (List.mem_of_getElem? (i := 8) rfl))) (g := (mkF m 55 #[.val (.long p1), .second, .val (.int p2), .unset, .unset, .unset, .unset, .unset, .unset, .unset, .unset] [(.int (8 : Int32)), (.ref pw), (.ref pw)])) rfl (hb hby at_55) _ ?_
      show Steps p.tables e below (T109.setTop (mkF m 58 #[.val (.long p1), .second, .val (.int p2), .unset, .unset, .unset, .unset, .unset, .unset, .unset, .unset] [(.long (100000000 : Int64)), (.int (8 : Int32)), (.ref pw), (.ref pw)])) _
      refine st110 _ ?_
      show Steps p.tables e below (T110.setTop (mkF m 59 #[.val (.long p1), .second, .val (.int p2), .unset, .unset, .unset, .unset, .unset, .unset, .unset, .unset] [(.ref pw)])) _
      refine XS.dup X110.here hx rfl (hb hby at_59) rfl rfl ?_
      show Steps p.tables e below (T110.setTop (mkF m 60 #[.val (.long p1), .second, .val (.int p2), .unset, .unset, .unset, .unset, .unset, .unset, .unset, .unset] [(.ref pw), (.ref pw)])) _
      refine XS.bipush X110.here hx rfl (hb hby at_60) ?_
      show Steps p.tables e below (T110.setTop (mkF m 62 #[.val (.long p1), .second, .val (.int p2), .unset, .unset, .unset, .unset, .unset, .unset, .unset, .unset] [(.int (9 : Int32)), (.ref pw), (.ref pw)])) _
      refine X110.ldc2Long hx hown (mvT hZ (hw _ (List.mem_of_getElem? (i := 9) rfl))) (g := (mkF m 62 #[.val (.long p1), .second, .val (.int p2), .unset, .unset, .unset, .unset, .unset, .unset, .unset, .unset] [(.int (9 : Int32)), (.ref pw), (.ref pw)])) rfl (hb hby at_62) _ ?_
      show Steps p.tables e below (T110.setTop (mkF m 65 #[.val (.long p1), .second, .val (.int p2), .unset, .unset, .unset, .unset, .unset, .unset, .unset, .unset] [(.long (1000000000 : Int64)), (.int (9 : Int32)), (.ref pw), (.ref pw)])) _
      refine st111 _ ?_
      show Steps p.tables e below (T111.setTop (mkF m 66 #[.val (.long p1), .second, .val (.int p2), .unset, .unset, .unset, .unset, .unset, .unset, .unset, .unset] [(.ref pw)])) _
      refine XS.dup X111.here hx rfl (hb hby at_66) rfl rfl ?_
      show Steps p.tables e below (T111.setTop (mkF m 67 #[.val (.long p1), .second, .val (.int p2), .unset, .unset, .unset, .unset, .unset, .unset, .unset, .unset] [(.ref pw), (.ref pw)])) _
      refine XS.bipush X111.here hx rfl (hb hby at_67) ?_
      show Steps p.tables e below (T111.setTop (mkF m 69 #[.val (.long p1), .second, .val (.int p2), .unset, .unset, .unset, .unset, .unset, .unset, .unset, .unset] [(.int (10 : Int32)), (.ref pw), (.ref pw)])) _
      refine X111.ldc2Long hx hown (mvT hZ (hw _ (List.mem_of_getElem? (i := 10) rfl))) (g := (mkF m 69 #[.val (.long p1), .second, .val (.int p2), .unset, .unset, .unset, .unset, .unset, .unset, .unset, .unset] [(.int (10 : Int32)), (.ref pw), (.ref pw)])) rfl (hb hby at_69) _ ?_
      show Steps p.tables e below (T111.setTop (mkF m 72 #[.val (.long p1), .second, .val (.int p2), .unset, .unset, .unset, .unset, .unset, .unset, .unset, .unset] [(.long (10000000000 : Int64)), (.int (10 : Int32)), (.ref pw), (.ref pw)])) _
      refine st112 _ ?_
      show Steps p.tables e below (T112.setTop (mkF m 73 #[.val (.long p1), .second, .val (.int p2), .unset, .unset, .unset, .unset, .unset, .unset, .unset, .unset] [(.ref pw)])) _
      refine XS.dup X112.here hx rfl (hb hby at_73) rfl rfl ?_
      show Steps p.tables e below (T112.setTop (mkF m 74 #[.val (.long p1), .second, .val (.int p2), .unset, .unset, .unset, .unset, .unset, .unset, .unset, .unset] [(.ref pw), (.ref pw)])) _
      refine XS.bipush X112.here hx rfl (hb hby at_74) ?_
      show Steps p.tables e below (T112.setTop (mkF m 76 #[.val (.long p1), .second, .val (.int p2), .unset, .unset, .unset, .unset, .unset, .unset, .unset, .unset] [(.int (11 : Int32)), (.ref pw), (.ref pw)])) _
      refine X112.ldc2Long hx hown (mvT hZ (hw _ (List.mem_of_getElem? (i := 11) rfl))) (g := (mkF m 76 #[.val (.long p1), .second, .val (.int p2), .unset, .unset, .unset, .unset, .unset, .unset, .unset, .unset] [(.int (11 : Int32)), (.ref pw), (.ref pw)])) rfl (hb hby at_76) _ ?_
      show Steps p.tables e below (T112.setTop (mkF m 79 #[.val (.long p1), .second, .val (.int p2), .unset, .unset, .unset, .unset, .unset, .unset, .unset, .unset] [(.long (100000000000 : Int64)), (.int (11 : Int32)), (.ref pw), (.ref pw)])) _
      refine st113 _ ?_
      show Steps p.tables e below (T113.setTop (mkF m 80 #[.val (.long p1), .second, .val (.int p2), .unset, .unset, .unset, .unset, .unset, .unset, .unset, .unset] [(.ref pw)])) _
      refine XS.dup X113.here hx rfl (hb hby at_80) rfl rfl ?_
      show Steps p.tables e below (T113.setTop (mkF m 81 #[.val (.long p1), .second, .val (.int p2), .unset, .unset, .unset, .unset, .unset, .unset, .unset, .unset] [(.ref pw), (.ref pw)])) _
      refine XS.bipush X113.here hx rfl (hb hby at_81) ?_
      show Steps p.tables e below (T113.setTop (mkF m 83 #[.val (.long p1), .second, .val (.int p2), .unset, .unset, .unset, .unset, .unset, .unset, .unset, .unset] [(.int (12 : Int32)), (.ref pw), (.ref pw)])) _
      refine X113.ldc2Long hx hown (mvT hZ (hw _ (List.mem_of_getElem? (i := 12) rfl))) (g := (mkF m 83 #[.val (.long p1), .second, .val (.int p2), .unset, .unset, .unset, .unset, .unset, .unset, .unset, .unset] [(.int (12 : Int32)), (.ref pw), (.ref pw)])) rfl (hb hby at_83) _ ?_
      show Steps p.tables e below (T113.setTop (mkF m 86 #[.val (.long p1), .second, .val (.int p2), .unset, .unset, .unset, .unset, .unset, .unset, .unset, .unset] [(.long (1000000000000 : Int64)), (.int (12 : Int32)), (.ref pw), (.ref pw)])) _
      refine st114 _ ?_
      show Steps p.tables e below (T114.setTop (mkF m 87 #[.val (.long p1), .second, .val (.int p2), .unset, .unset, .unset, .unset, .unset, .unset, .unset, .unset] [(.ref pw)])) _
      refine XS.dup X114.here hx rfl (hb hby at_87) rfl rfl ?_
      show Steps p.tables e below (T114.setTop (mkF m 88 #[.val (.long p1), .second, .val (.int p2), .unset, .unset, .unset, .unset, .unset, .unset, .unset, .unset] [(.ref pw), (.ref pw)])) _
      refine XS.bipush X114.here hx rfl (hb hby at_88) ?_
      show Steps p.tables e below (T114.setTop (mkF m 90 #[.val (.long p1), .second, .val (.int p2), .unset, .unset, .unset, .unset, .unset, .unset, .unset, .unset] [(.int (13 : Int32)), (.ref pw), (.ref pw)])) _
      refine X114.ldc2Long hx hown (mvT hZ (hw _ (List.mem_of_getElem? (i := 13) rfl))) (g := (mkF m 90 #[.val (.long p1), .second, .val (.int p2), .unset, .unset, .unset, .unset, .unset, .unset, .unset, .unset] [(.int (13 : Int32)), (.ref pw), (.ref pw)])) rfl (hb hby at_90) _ ?_
      show Steps p.tables e below (T114.setTop (mkF m 93 #[.val (.long p1), .second, .val (.int p2), .unset, .unset, .unset, .unset, .unset, .unset, .unset, .unset] [(.long (10000000000000 : Int64)), (.int (13 : Int32)), (.ref pw), (.ref pw)])) _
      refine st115 _ ?_
      show Steps p.tables e below (T115.setTop (mkF m 94 #[.val (.long p1), .second, .val (.int p2), .unset, .unset, .unset, .unset, .unset, .unset, .unset, .unset] [(.ref pw)])) _
      refine XS.dup X115.here hx rfl (hb hby at_94) rfl rfl ?_
      show Steps p.tables e below (T115.setTop (mkF m 95 #[.val (.long p1), .second, .val (.int p2), .unset, .unset, .unset, .unset, .unset, .unset, .unset, .unset] [(.ref pw), (.ref pw)])) _
      refine XS.bipush X115.here hx rfl (hb hby at_95) ?_
      show Steps p.tables e below (T115.setTop (mkF m 97 #[.val (.long p1), .second, .val (.int p2), .unset, .unset, .unset, .unset, .unset, .unset, .unset, .unset] [(.int (14 : Int32)), (.ref pw), (.ref pw)])) _
      refine X115.ldc2Long hx hown (mvT hZ (hw _ (List.mem_of_getElem? (i := 14) rfl))) (g := (mkF m 97 #[.val (.long p1), .second, .val (.int p2), .unset, .unset, .unset, .unset, .unset, .unset, .unset, .unset] [(.int (14 : Int32)), (.ref pw), (.ref pw)])) rfl (hb hby at_97) _ ?_
      show Steps p.tables e below (T115.setTop (mkF m 100 #[.val (.long p1), .second, .val (.int p2), .unset, .unset, .unset, .unset, .unset, .unset, .unset, .unset] [(.long (100000000000000 : Int64)), (.int (14 : Int32)), (.ref pw), (.ref pw)])) _
      refine st116 _ ?_
      show Steps p.tables e below (T116.setTop (mkF m 101 #[.val (.long p1), .second, .val (.int p2), .unset, .unset, .unset, .unset, .unset, .unset, .unset, .unset] [(.ref pw)])) _
      refine XS.dup X116.here hx rfl (hb hby at_101) rfl rfl ?_
      show Steps p.tables e below (T116.setTop (mkF m 102 #[.val (.long p1), .second, .val (.int p2), .unset, .unset, .unset, .unset, .unset, .unset, .unset, .unset] [(.ref pw), (.ref pw)])) _
      refine XS.bipush X116.here hx rfl (hb hby at_102) ?_
      show Steps p.tables e below (T116.setTop (mkF m 104 #[.val (.long p1), .second, .val (.int p2), .unset, .unset, .unset, .unset, .unset, .unset, .unset, .unset] [(.int (15 : Int32)), (.ref pw), (.ref pw)])) _
      refine X116.ldc2Long hx hown (mvT hZ (hw _ (List.mem_of_getElem? (i := 15) rfl))) (g := (mkF m 104 #[.val (.long p1), .second, .val (.int p2), .unset, .unset, .unset, .unset, .unset, .unset, .unset, .unset] [(.int (15 : Int32)), (.ref pw), (.ref pw)])) rfl (hb hby at_104) _ ?_
      show Steps p.tables e below (T116.setTop (mkF m 107 #[.val (.long p1), .second, .val (.int p2), .unset, .unset, .unset, .unset, .unset, .unset, .unset, .unset] [(.long (1000000000000000 : Int64)), (.int (15 : Int32)), (.ref pw), (.ref pw)])) _
      refine st117 _ ?_
      show Steps p.tables e below (T117.setTop (mkF m 108 #[.val (.long p1), .second, .val (.int p2), .unset, .unset, .unset, .unset, .unset, .unset, .unset, .unset] [(.ref pw)])) _
      refine XS.dup X117.here hx rfl (hb hby at_108) rfl rfl ?_
      show Steps p.tables e below (T117.setTop (mkF m 109 #[.val (.long p1), .second, .val (.int p2), .unset, .unset, .unset, .unset, .unset, .unset, .unset, .unset] [(.ref pw), (.ref pw)])) _
      refine XS.bipush X117.here hx rfl (hb hby at_109) ?_
      show Steps p.tables e below (T117.setTop (mkF m 111 #[.val (.long p1), .second, .val (.int p2), .unset, .unset, .unset, .unset, .unset, .unset, .unset, .unset] [(.int (16 : Int32)), (.ref pw), (.ref pw)])) _
      refine X117.ldc2Long hx hown (mvT hZ (hw _ (List.mem_of_getElem? (i := 16) rfl))) (g := (mkF m 111 #[.val (.long p1), .second, .val (.int p2), .unset, .unset, .unset, .unset, .unset, .unset, .unset, .unset] [(.int (16 : Int32)), (.ref pw), (.ref pw)])) rfl (hb hby at_111) _ ?_
      show Steps p.tables e below (T117.setTop (mkF m 114 #[.val (.long p1), .second, .val (.int p2), .unset, .unset, .unset, .unset, .unset, .unset, .unset, .unset] [(.long (10000000000000000 : Int64)), (.int (16 : Int32)), (.ref pw), (.ref pw)])) _
      refine st118 _ ?_
      show Steps p.tables e below (T118.setTop (mkF m 115 #[.val (.long p1), .second, .val (.int p2), .unset, .unset, .unset, .unset, .unset, .unset, .unset, .unset] [(.ref pw)])) _
      refine XS.dup X118.here hx rfl (hb hby at_115) rfl rfl ?_
      show Steps p.tables e below (T118.setTop (mkF m 116 #[.val (.long p1), .second, .val (.int p2), .unset, .unset, .unset, .unset, .unset, .unset, .unset, .unset] [(.ref pw), (.ref pw)])) _
      refine XS.bipush X118.here hx rfl (hb hby at_116) ?_
      show Steps p.tables e below (T118.setTop (mkF m 118 #[.val (.long p1), .second, .val (.int p2), .unset, .unset, .unset, .unset, .unset, .unset, .unset, .unset] [(.int (17 : Int32)), (.ref pw), (.ref pw)])) _
      refine X118.ldc2Long hx hown (mvT hZ (hw _ (List.mem_of_getElem? (i := 17) rfl))) (g := (mkF m 118 #[.val (.long p1), .second, .val (.int p2), .unset, .unset, .unset, .unset, .unset, .unset, .unset, .unset] [(.int (17 : Int32)), (.ref pw), (.ref pw)])) rfl (hb hby at_118) _ ?_
      show Steps p.tables e below (T118.setTop (mkF m 121 #[.val (.long p1), .second, .val (.int p2), .unset, .unset, .unset, .unset, .unset, .unset, .unset, .unset] [(.long (100000000000000000 : Int64)), (.int (17 : Int32)), (.ref pw), (.ref pw)])) _
      refine st119 _ ?_
      show Steps p.tables e below (T119.setTop (mkF m 122 #[.val (.long p1), .second, .val (.int p2), .unset, .unset, .unset, .unset, .unset, .unset, .unset, .unset] [(.ref pw)])) _
      refine XS.dup X119.here hx rfl (hb hby at_122) rfl rfl ?_
      show Steps p.tables e below (T119.setTop (mkF m 123 #[.val (.long p1), .second, .val (.int p2), .unset, .unset, .unset, .unset, .unset, .unset, .unset, .unset] [(.ref pw), (.ref pw)])) _
      refine XS.bipush X119.here hx rfl (hb hby at_123) ?_
      show Steps p.tables e below (T119.setTop (mkF m 125 #[.val (.long p1), .second, .val (.int p2), .unset, .unset, .unset, .unset, .unset, .unset, .unset, .unset] [(.int (18 : Int32)), (.ref pw), (.ref pw)])) _
      refine X119.ldc2Long hx hown (mvT hZ (hw _ (List.mem_of_getElem? (i := 18) rfl))) (g := (mkF m 125 #[.val (.long p1), .second, .val (.int p2), .unset, .unset, .unset, .unset, .unset, .unset, .unset, .unset] [(.int (18 : Int32)), (.ref pw), (.ref pw)])) rfl (hb hby at_125) _ ?_
      show Steps p.tables e below (T119.setTop (mkF m 128 #[.val (.long p1), .second, .val (.int p2), .unset, .unset, .unset, .unset, .unset, .unset, .unset, .unset] [(.long (1000000000000000000 : Int64)), (.int (18 : Int32)), (.ref pw), (.ref pw)])) _
      refine st120 _ ?_
      show Steps p.tables e below (T120.setTop (mkF m 129 #[.val (.long p1), .second, .val (.int p2), .unset, .unset, .unset, .unset, .unset, .unset, .unset, .unset] [(.ref pw)])) _
      refine XS.astoreN X120.here hx rfl (hb hby at_129) rfl rfl (l' := #[.val (.long p1), .second, .val (.int p2), .val (.ref pw), .unset, .unset, .unset, .unset, .unset, .unset, .unset]) rfl ?_
      show Steps p.tables e below (T120.setTop (mkF m 130 #[.val (.long p1), .second, .val (.int p2), .val (.ref pw), .unset, .unset, .unset, .unset, .unset, .unset, .unset] [])) _
      refine XS.lloadN X120.here hx rfl (hb hby at_130) rfl ?_
      show Steps p.tables e below (T120.setTop (mkF m 131 #[.val (.long p1), .second, .val (.int p2), .val (.ref pw), .unset, .unset, .unset, .unset, .unset, .unset, .unset] [(.long p1)])) _
      refine X120.ldc2Long hx hown (mvT hZ (hw _ (List.mem_of_getElem? (i := 19) rfl))) (g := (mkF m 131 #[.val (.long p1), .second, .val (.int p2), .val (.ref pw), .unset, .unset, .unset, .unset, .unset, .unset, .unset] [(.long p1)])) rfl (hb hby at_131) _ ?_
      show Steps p.tables e below (T120.setTop (mkF m 134 #[.val (.long p1), .second, .val (.int p2), .val (.ref pw), .unset, .unset, .unset, .unset, .unset, .unset, .unset] [(.long (9223372036854775807 : Int64)), (.long p1)])) _
      refine XS.land X120.here hx rfl (hb hby at_134) rfl ?_
      show Steps p.tables e below (T120.setTop (mkF m 135 #[.val (.long p1), .second, .val (.int p2), .val (.ref pw), .unset, .unset, .unset, .unset, .unset, .unset, .unset] [(.long (p1 &&& (9223372036854775807 : Int64)))])) _
      refine XS.aloadN X120.here hx rfl (hb hby at_135) rfl rfl ?_
      show Steps p.tables e below (T120.setTop (mkF m 136 #[.val (.long p1), .second, .val (.int p2), .val (.ref pw), .unset, .unset, .unset, .unset, .unset, .unset, .unset] [(.ref pw), (.long (p1 &&& (9223372036854775807 : Int64)))])) _
      refine XS.bipush X120.here hx rfl (hb hby at_136) ?_
      show Steps p.tables e below (T120.setTop (mkF m 138 #[.val (.long p1), .second, .val (.int p2), .val (.ref pw), .unset, .unset, .unset, .unset, .unset, .unset, .unset] [(.int (18 : Int32)), (.ref pw), (.long (p1 &&& (9223372036854775807 : Int64)))])) _
      refine X120.laload hx (j := (18 : Int32)) (v := (.long (1000000000000000000 : Int64))) (by rw [e120]; exact Ar121.1) (State.isArrayOf_alike hZ.alike Ar121.2.1) Ar121.2.2 hin121 hat121 (g := (mkF m 138 #[.val (.long p1), .second, .val (.int p2), .val (.ref pw), .unset, .unset, .unset, .unset, .unset, .unset, .unset] [(.int (18 : Int32)), (.ref pw), (.long (p1 &&& (9223372036854775807 : Int64)))])) rfl rfl (hb hby at_138) _ ?_
      show Steps p.tables e below (T120.setTop (mkF m 139 #[.val (.long p1), .second, .val (.int p2), .val (.ref pw), .unset, .unset, .unset, .unset, .unset, .unset, .unset] [(.long (1000000000000000000 : Int64)), (.long (p1 &&& (9223372036854775807 : Int64)))])) _
      refine XS.lrem X120.here hx rfl (hb hby at_139) rfl (by decide) ?_
      show Steps p.tables e below (T120.setTop (mkF m 140 #[.val (.long p1), .second, .val (.int p2), .val (.ref pw), .unset, .unset, .unset, .unset, .unset, .unset, .unset] [(.long ((p1 &&& (9223372036854775807 : Int64)) - ((p1 &&& (9223372036854775807 : Int64)) / (1000000000000000000 : Int64)) * (1000000000000000000 : Int64)))])) _
      exact k)
  obtain ⟨W, hW18, hv⟩ := own_vv p1
  rw [hv] at go122
  have hWn : W < 9223372036854775808 := Nat.lt_trans hW18 (by decide)
  have go123 : ∀ tg_, Steps p.tables e below (T120.setTop (mkF m 149 #[.val (.long p1), .second, .val (.int p2), .val (.ref pw), .val (.long (Int64.ofNat W)), .second, .unset, .unset, .unset, .unset, .unset] [(.int ((p2 &&& (2147483647 : Int32)) % (19 : Int32)))])) tg_ → Steps p.tables e below (s₁.setTop (entryFrame m #[(.long p1), (.int p2)] maxLocals)) tg_ := fun tg_ k => go122 tg_ (by
      show Steps p.tables e below (T120.setTop (mkF m 140 #[.val (.long p1), .second, .val (.int p2), .val (.ref pw), .unset, .unset, .unset, .unset, .unset, .unset, .unset] [(.long (Int64.ofNat W))])) _
      refine XS.lstore X120.here hx rfl (hb hby at_140) rfl (l' := #[.val (.long p1), .second, .val (.int p2), .val (.ref pw), .val (.long (Int64.ofNat W)), .second, .unset, .unset, .unset, .unset, .unset]) rfl ?_
      show Steps p.tables e below (T120.setTop (mkF m 142 #[.val (.long p1), .second, .val (.int p2), .val (.ref pw), .val (.long (Int64.ofNat W)), .second, .unset, .unset, .unset, .unset, .unset] [])) _
      refine XS.iloadN X120.here hx rfl (hb hby at_142) rfl ?_
      show Steps p.tables e below (T120.setTop (mkF m 143 #[.val (.long p1), .second, .val (.int p2), .val (.ref pw), .val (.long (Int64.ofNat W)), .second, .unset, .unset, .unset, .unset, .unset] [(.int p2)])) _
      refine X120.ldcInt hx hown (mvT hZ (hw _ (List.mem_of_getElem? (i := 20) rfl))) (g := (mkF m 143 #[.val (.long p1), .second, .val (.int p2), .val (.ref pw), .val (.long (Int64.ofNat W)), .second, .unset, .unset, .unset, .unset, .unset] [(.int p2)])) rfl (hb hby at_143) _ ?_
      show Steps p.tables e below (T120.setTop (mkF m 145 #[.val (.long p1), .second, .val (.int p2), .val (.ref pw), .val (.long (Int64.ofNat W)), .second, .unset, .unset, .unset, .unset, .unset] [(.int (2147483647 : Int32)), (.int p2)])) _
      refine XS.iand X120.here hx rfl (hb hby at_145) rfl ?_
      show Steps p.tables e below (T120.setTop (mkF m 146 #[.val (.long p1), .second, .val (.int p2), .val (.ref pw), .val (.long (Int64.ofNat W)), .second, .unset, .unset, .unset, .unset, .unset] [(.int (p2 &&& (2147483647 : Int32)))])) _
      refine XS.bipush X120.here hx rfl (hb hby at_146) ?_
      show Steps p.tables e below (T120.setTop (mkF m 148 #[.val (.long p1), .second, .val (.int p2), .val (.ref pw), .val (.long (Int64.ofNat W)), .second, .unset, .unset, .unset, .unset, .unset] [(.int (19 : Int32)), (.int (p2 &&& (2147483647 : Int32)))])) _
      refine Jvm.RoadKit.iremM X120 hx rfl (hb hby at_148) rfl (by decide) ?_
      show Steps p.tables e below (T120.setTop (mkF m 149 #[.val (.long p1), .second, .val (.int p2), .val (.ref pw), .val (.long (Int64.ofNat W)), .second, .unset, .unset, .unset, .unset, .unset] [(.int ((p2 &&& (2147483647 : Int32)) % (19 : Int32)))])) _
      exact k)
  obtain ⟨pp, hpp, he⟩ := own_pv p2
  rw [he] at go123
  obtain ⟨T124, h124, k124, X124, e124, E124, A124, st124⟩ := newP X120 hx hZ (hw _ (List.mem_of_getElem? (i := 21) rfl)) e120 (g := (mkF m 153 #[.val (.long p1), .second, .val (.int p2), .val (.ref pw), .val (.long (Int64.ofNat W)), .second, .val (.int (Int32.ofNat pp)), .unset, .unset, .unset, .unset] [(.int (19 : Int32))])) rfl (hb hby at_153) rfl (by decide) (cap := 19) (by decide) (by decide) (by decide) (by decide)
  obtain ⟨ca, g124⟩ : ∃ z, z = h120.size := ⟨_, rfl⟩
  rw [← g124] at A124 st124
  have Z_125 := (Nat.le_trans (Nat.le_trans (Nat.le_trans (Nat.le_trans (Nat.le_trans (Nat.le_trans (Nat.le_trans (Nat.le_trans (Nat.le_trans (Nat.le_trans (Nat.le_trans (Nat.le_trans (Nat.le_trans (Nat.le_trans (Nat.le_trans (Nat.le_trans (Nat.le_trans (Nat.le_trans (Nat.le_trans (Nat.le_trans Z0 K101.1) K102.1) K103.1) K104.1) K105.1) K106.1) K107.1) K108.1) K109.1) K110.1) K111.1) K112.1) K113.1) K114.1) K115.1) K116.1) K117.1) K118.1) K119.1) K120.1)
  have g_ca : n0 ≤ ca := Nat.le_trans Z_125 (Nat.le_of_eq g124.symm)
  have lt_pw_126 := (Nat.lt_of_lt_of_le (Nat.lt_of_lt_of_le (Nat.lt_of_lt_of_le (Nat.lt_of_lt_of_le (Nat.lt_of_lt_of_le (Nat.lt_of_lt_of_le (Nat.lt_of_lt_of_le (Nat.lt_of_lt_of_le (Nat.lt_of_lt_of_le (Nat.lt_of_lt_of_le (Nat.lt_of_lt_of_le (Nat.lt_of_lt_of_le (Nat.lt_of_lt_of_le (Nat.lt_of_lt_of_le (Nat.lt_of_lt_of_le (Nat.lt_of_lt_of_le (Nat.lt_of_lt_of_le (Nat.lt_of_lt_of_le (Nat.lt_of_lt_of_le lt_pw K102.1) K103.1) K104.1) K105.1) K106.1) K107.1) K108.1) K109.1) K110.1) K111.1) K112.1) K113.1) K114.1) K115.1) K116.1) K117.1) K118.1) K119.1) K120.1)
  have ne_pw_ca : pw ≠ ca := (Nat.ne_of_lt (Nat.lt_of_lt_of_le lt_pw_126 (Nat.le_of_eq g124.symm)))
  have V_ca : Arv Z h124 ca k124 .char (19 : Int32) [(.int (0 : Int32)), (.int (0 : Int32)), (.int (0 : Int32)), (.int (0 : Int32)), (.int (0 : Int32)), (.int (0 : Int32)), (.int (0 : Int32)), (.int (0 : Int32)), (.int (0 : Int32)), (.int (0 : Int32)), (.int (0 : Int32)), (.int (0 : Int32)), (.int (0 : Int32)), (.int (0 : Int32)), (.int (0 : Int32)), (.int (0 : Int32)), (.int (0 : Int32)), (.int (0 : Int32)), (.int (0 : Int32))] (.int (0 : Int32)) := (Arv.new A124 (by decide)).pad (pad_rep [] (.int (0 : Int32)) 19)
  have K124 : Keep h120 h124 [] := (Keep.refl _ []).ext E124
  have lt_ca : ca < h124.size := V_ca.lt
  have V_pw_127 := (VPW.keep K124 nin0)
  obtain ⟨_, _, ⟨T128, L128, kk128, nn128⟩, -, X128, ⟨Lc128, hQ128, l128, y128, z128⟩, st128⟩ := Jvm.LawKit.callS X124 hx (y := (⟨"com/example/allotrope/allotrope/workload/FieldsWholePinLaw", "ch", "(JII[J)C"⟩ : MethodName)) hown (mvT hZ (hw _ (List.mem_of_getElem? (i := 22) rfl))) (mvT hZ (hw _ (List.mem_of_getElem? (i := 23) rfl))) (mvT hZ (hw _ (List.mem_of_getElem? (i := 24) rfl))) (mvT hZ (hw _ (List.mem_of_getElem? (i := 25) rfl))) (by decide) (backOf (W := 2) (rmC l Z a0 hw [] W pp 0 pw k101 h124 n0 hWn hpp (by decide) V_pw_127) hZ (hw _ (List.mem_of_getElem? (i := 25) rfl)) (hw _ (List.mem_of_getElem? (i := 24) rfl)) (by decide) (by decide)) (g := (mkF m 166 #[.val (.long p1), .second, .val (.int p2), .val (.ref pw), .val (.long (Int64.ofNat W)), .second, .val (.int (Int32.ofNat pp)), .val (.ref ca), .unset, .unset, .unset] [(.ref pw), (.int (0 : Int32)), (.int (Int32.ofNat pp)), (.long (Int64.ofNat W)), (.int (0 : Int32)), (.ref ca)])) rfl (by rw [hml]; rfl) (argsL := [(.long (Int64.ofNat W)), (.int (Int32.ofNat pp)), (.int (0 : Int32)), (.ref pw)]) (rest := [(.int (0 : Int32)), (.ref ca)]) (lenOf pd__JII_J_C rfl) rfl (by show 2 * 0 + _ ≤ _; exact Nat.le_of_eq rfl) (hb hby at_166) (fun _ _ => ⟨rfl, e124, Nat.le_of_ble_eq_true rfl, Nat.le_of_ble_eq_true rfl⟩)
  dsimp only [Pt.U, Pt.locs, Pt.cells, Pt.slots] at X128 l128 y128 z128 st128 hQ128
  subst y128 z128
  obtain ⟨rfl, Nq128, e128⟩ := hQ128
  have N128 : Fr n0 L128 := l128 ▸ Fr.app N120 Nq128
  clear l128
  obtain ⟨cl129, Ar129, q129, S129, M129, Hh129, G129⟩ := id V_ca
  obtain ⟨T129, h129, X129, e129, W129, st129⟩ := stC X128 hx hZ e128 Ar129 (j := (0 : Int32)) (inb_of S129 ⟨by decide, by decide⟩) (g := (mkF m 169 #[.val (.long p1), .second, .val (.int p2), .val (.ref pw), .val (.long (Int64.ofNat W)), .second, .val (.int (Int32.ofNat pp)), .val (.ref ca), .unset, .unset, .unset] [(.int (Int32.ofNat (own_ch W pp 0))), (.int (0 : Int32)), (.ref ca)])) rfl rfl (hb hby at_169)
  have V_ca_129 : Arv Z h129 ca k124 .char (19 : Int32) [(.int (nar .char (Int32.ofNat (own_ch W pp 0)))), (.int (0 : Int32)), (.int (0 : Int32)), (.int (0 : Int32)), (.int (0 : Int32)), (.int (0 : Int32)), (.int (0 : Int32)), (.int (0 : Int32)), (.int (0 : Int32)), (.int (0 : Int32)), (.int (0 : Int32)), (.int (0 : Int32)), (.int (0 : Int32)), (.int (0 : Int32)), (.int (0 : Int32)), (.int (0 : Int32)), (.int (0 : Int32)), (.int (0 : Int32)), (.int (0 : Int32))] (.int (0 : Int32)) := Arv.set Ar129 q129 S129 M129 Hh129 G129 (fits_nar_char _) W129 0 rfl (Nat.le_of_ble_eq_true rfl)
  have K129 : Keep h124 h129 [ca] := Keep.of_wr W129
  have N129 := Fr.snoc X129 N128 g_ca
  have V_pw_130 := (V_pw_127.keep K129 (ninS ne_pw_ca nin0))
  obtain ⟨_, _, ⟨T131, L131, kk131, nn131⟩, -, X131, ⟨Lc131, hQ131, l131, y131, z131⟩, st131⟩ := Jvm.LawKit.callS X129 hx (y := (⟨"com/example/allotrope/allotrope/workload/FieldsWholePinLaw", "ch", "(JII[J)C"⟩ : MethodName)) hown (mvT hZ (hw _ (List.mem_of_getElem? (i := 22) rfl))) (mvT hZ (hw _ (List.mem_of_getElem? (i := 23) rfl))) (mvT hZ (hw _ (List.mem_of_getElem? (i := 24) rfl))) (mvT hZ (hw _ (List.mem_of_getElem? (i := 25) rfl))) (by decide) (backOf (W := 2) (rmC l Z a0 hw [] W pp 1 pw k101 h129 n0 hWn hpp (by decide) V_pw_130) hZ (hw _ (List.mem_of_getElem? (i := 25) rfl)) (hw _ (List.mem_of_getElem? (i := 24) rfl)) (by decide) (by decide)) (g := (mkF m 179 #[.val (.long p1), .second, .val (.int p2), .val (.ref pw), .val (.long (Int64.ofNat W)), .second, .val (.int (Int32.ofNat pp)), .val (.ref ca), .unset, .unset, .unset] [(.ref pw), (.int (1 : Int32)), (.int (Int32.ofNat pp)), (.long (Int64.ofNat W)), (.int (1 : Int32)), (.ref ca)])) rfl (by rw [hml]; rfl) (argsL := [(.long (Int64.ofNat W)), (.int (Int32.ofNat pp)), (.int (1 : Int32)), (.ref pw)]) (rest := [(.int (1 : Int32)), (.ref ca)]) (lenOf pd__JII_J_C rfl) rfl (by show 2 * 0 + _ ≤ _; exact Nat.le_of_eq rfl) (hb hby at_179) (fun _ _ => ⟨rfl, e129, Nat.le_of_ble_eq_true rfl, Nat.le_of_ble_eq_true rfl⟩)
  dsimp only [Pt.U, Pt.locs, Pt.cells, Pt.slots] at X131 l131 y131 z131 st131 hQ131
  subst y131 z131
  obtain ⟨rfl, Nq131, e131⟩ := hQ131
  have N131 : Fr n0 L131 := l131 ▸ Fr.app N129 Nq131
  clear l131
  obtain ⟨cl132, Ar132, q132, S132, M132, Hh132, G132⟩ := id V_ca_129
  obtain ⟨T132, h132, X132, e132, W132, st132⟩ := stC X131 hx hZ e131 Ar132 (j := (1 : Int32)) (inb_of S132 ⟨by decide, by decide⟩) (g := (mkF m 182 #[.val (.long p1), .second, .val (.int p2), .val (.ref pw), .val (.long (Int64.ofNat W)), .second, .val (.int (Int32.ofNat pp)), .val (.ref ca), .unset, .unset, .unset] [(.int (Int32.ofNat (own_ch W pp 1))), (.int (1 : Int32)), (.ref ca)])) rfl rfl (hb hby at_182)
  have V_ca_132 : Arv Z h132 ca k124 .char (19 : Int32) [(.int (nar .char (Int32.ofNat (own_ch W pp 0)))), (.int (nar .char (Int32.ofNat (own_ch W pp 1)))), (.int (0 : Int32)), (.int (0 : Int32)), (.int (0 : Int32)), (.int (0 : Int32)), (.int (0 : Int32)), (.int (0 : Int32)), (.int (0 : Int32)), (.int (0 : Int32)), (.int (0 : Int32)), (.int (0 : Int32)), (.int (0 : Int32)), (.int (0 : Int32)), (.int (0 : Int32)), (.int (0 : Int32)), (.int (0 : Int32)), (.int (0 : Int32)), (.int (0 : Int32))] (.int (0 : Int32)) := Arv.set Ar132 q132 S132 M132 Hh132 G132 (fits_nar_char _) W132 1 rfl (Nat.le_of_ble_eq_true rfl)
  have K132 : Keep h129 h132 [ca] := Keep.of_wr W132
  have N132 := Fr.snoc X132 N131 g_ca
  have V_pw_133 := (V_pw_130.keep K132 (ninS ne_pw_ca nin0))
  obtain ⟨_, _, ⟨T134, L134, kk134, nn134⟩, -, X134, ⟨Lc134, hQ134, l134, y134, z134⟩, st134⟩ := Jvm.LawKit.callS X132 hx (y := (⟨"com/example/allotrope/allotrope/workload/FieldsWholePinLaw", "ch", "(JII[J)C"⟩ : MethodName)) hown (mvT hZ (hw _ (List.mem_of_getElem? (i := 22) rfl))) (mvT hZ (hw _ (List.mem_of_getElem? (i := 23) rfl))) (mvT hZ (hw _ (List.mem_of_getElem? (i := 24) rfl))) (mvT hZ (hw _ (List.mem_of_getElem? (i := 25) rfl))) (by decide) (backOf (W := 2) (rmC l Z a0 hw [] W pp 2 pw k101 h132 n0 hWn hpp (by decide) V_pw_133) hZ (hw _ (List.mem_of_getElem? (i := 25) rfl)) (hw _ (List.mem_of_getElem? (i := 24) rfl)) (by decide) (by decide)) (g := (mkF m 192 #[.val (.long p1), .second, .val (.int p2), .val (.ref pw), .val (.long (Int64.ofNat W)), .second, .val (.int (Int32.ofNat pp)), .val (.ref ca), .unset, .unset, .unset] [(.ref pw), (.int (2 : Int32)), (.int (Int32.ofNat pp)), (.long (Int64.ofNat W)), (.int (2 : Int32)), (.ref ca)])) rfl (by rw [hml]; rfl) (argsL := [(.long (Int64.ofNat W)), (.int (Int32.ofNat pp)), (.int (2 : Int32)), (.ref pw)]) (rest := [(.int (2 : Int32)), (.ref ca)]) (lenOf pd__JII_J_C rfl) rfl (by show 2 * 0 + _ ≤ _; exact Nat.le_of_eq rfl) (hb hby at_192) (fun _ _ => ⟨rfl, e132, Nat.le_of_ble_eq_true rfl, Nat.le_of_ble_eq_true rfl⟩)
  dsimp only [Pt.U, Pt.locs, Pt.cells, Pt.slots] at X134 l134 y134 z134 st134 hQ134
  subst y134 z134
  obtain ⟨rfl, Nq134, e134⟩ := hQ134
  have N134 : Fr n0 L134 := l134 ▸ Fr.app N132 Nq134
  clear l134
  obtain ⟨cl135, Ar135, q135, S135, M135, Hh135, G135⟩ := id V_ca_132
  obtain ⟨T135, h135, X135, e135, W135, st135⟩ := stC X134 hx hZ e134 Ar135 (j := (2 : Int32)) (inb_of S135 ⟨by decide, by decide⟩) (g := (mkF m 195 #[.val (.long p1), .second, .val (.int p2), .val (.ref pw), .val (.long (Int64.ofNat W)), .second, .val (.int (Int32.ofNat pp)), .val (.ref ca), .unset, .unset, .unset] [(.int (Int32.ofNat (own_ch W pp 2))), (.int (2 : Int32)), (.ref ca)])) rfl rfl (hb hby at_195)
  have V_ca_135 : Arv Z h135 ca k124 .char (19 : Int32) [(.int (nar .char (Int32.ofNat (own_ch W pp 0)))), (.int (nar .char (Int32.ofNat (own_ch W pp 1)))), (.int (nar .char (Int32.ofNat (own_ch W pp 2)))), (.int (0 : Int32)), (.int (0 : Int32)), (.int (0 : Int32)), (.int (0 : Int32)), (.int (0 : Int32)), (.int (0 : Int32)), (.int (0 : Int32)), (.int (0 : Int32)), (.int (0 : Int32)), (.int (0 : Int32)), (.int (0 : Int32)), (.int (0 : Int32)), (.int (0 : Int32)), (.int (0 : Int32)), (.int (0 : Int32)), (.int (0 : Int32))] (.int (0 : Int32)) := Arv.set Ar135 q135 S135 M135 Hh135 G135 (fits_nar_char _) W135 2 rfl (Nat.le_of_ble_eq_true rfl)
  have K135 : Keep h132 h135 [ca] := Keep.of_wr W135
  have N135 := Fr.snoc X135 N134 g_ca
  have V_pw_136 := (V_pw_133.keep K135 (ninS ne_pw_ca nin0))
  obtain ⟨_, _, ⟨T137, L137, kk137, nn137⟩, -, X137, ⟨Lc137, hQ137, l137, y137, z137⟩, st137⟩ := Jvm.LawKit.callS X135 hx (y := (⟨"com/example/allotrope/allotrope/workload/FieldsWholePinLaw", "ch", "(JII[J)C"⟩ : MethodName)) hown (mvT hZ (hw _ (List.mem_of_getElem? (i := 22) rfl))) (mvT hZ (hw _ (List.mem_of_getElem? (i := 23) rfl))) (mvT hZ (hw _ (List.mem_of_getElem? (i := 24) rfl))) (mvT hZ (hw _ (List.mem_of_getElem? (i := 25) rfl))) (by decide) (backOf (W := 2) (rmC l Z a0 hw [] W pp 3 pw k101 h135 n0 hWn hpp (by decide) V_pw_136) hZ (hw _ (List.mem_of_getElem? (i := 25) rfl)) (hw _ (List.mem_of_getElem? (i := 24) rfl)) (by decide) (by decide)) (g := (mkF m 205 #[.val (.long p1), .second, .val (.int p2), .val (.ref pw), .val (.long (Int64.ofNat W)), .second, .val (.int (Int32.ofNat pp)), .val (.ref ca), .unset, .unset, .unset] [(.ref pw), (.int (3 : Int32)), (.int (Int32.ofNat pp)), (.long (Int64.ofNat W)), (.int (3 : Int32)), (.ref ca)])) rfl (by rw [hml]; rfl) (argsL := [(.long (Int64.ofNat W)), (.int (Int32.ofNat pp)), (.int (3 : Int32)), (.ref pw)]) (rest := [(.int (3 : Int32)), (.ref ca)]) (lenOf pd__JII_J_C rfl) rfl (by show 2 * 0 + _ ≤ _; exact Nat.le_of_eq rfl) (hb hby at_205) (fun _ _ => ⟨rfl, e135, Nat.le_of_ble_eq_true rfl, Nat.le_of_ble_eq_true rfl⟩)
  dsimp only [Pt.U, Pt.locs, Pt.cells, Pt.slots] at X137 l137 y137 z137 st137 hQ137
  subst y137 z137
  obtain ⟨rfl, Nq137, e137⟩ := hQ137
  have N137 : Fr n0 L137 := l137 ▸ Fr.app N135 Nq137
  clear l137
  obtain ⟨cl138, Ar138, q138, S138, M138, Hh138, G138⟩ := id V_ca_135
  obtain ⟨T138, h138, X138, e138, W138, st138⟩ := stC X137 hx hZ e137 Ar138 (j := (3 : Int32)) (inb_of S138 ⟨by decide, by decide⟩) (g := (mkF m 208 #[.val (.long p1), .second, .val (.int p2), .val (.ref pw), .val (.long (Int64.ofNat W)), .second, .val (.int (Int32.ofNat pp)), .val (.ref ca), .unset, .unset, .unset] [(.int (Int32.ofNat (own_ch W pp 3))), (.int (3 : Int32)), (.ref ca)])) rfl rfl (hb hby at_208)
  have V_ca_138 : Arv Z h138 ca k124 .char (19 : Int32) [(.int (nar .char (Int32.ofNat (own_ch W pp 0)))), (.int (nar .char (Int32.ofNat (own_ch W pp 1)))), (.int (nar .char (Int32.ofNat (own_ch W pp 2)))), (.int (nar .char (Int32.ofNat (own_ch W pp 3)))), (.int (0 : Int32)), (.int (0 : Int32)), (.int (0 : Int32)), (.int (0 : Int32)), (.int (0 : Int32)), (.int (0 : Int32)), (.int (0 : Int32)), (.int (0 : Int32)), (.int (0 : Int32)), (.int (0 : Int32)), (.int (0 : Int32)), (.int (0 : Int32)), (.int (0 : Int32)), (.int (0 : Int32)), (.int (0 : Int32))] (.int (0 : Int32)) := Arv.set Ar138 q138 S138 M138 Hh138 G138 (fits_nar_char _) W138 3 rfl (Nat.le_of_ble_eq_true rfl)
  have K138 : Keep h135 h138 [ca] := Keep.of_wr W138
  have N138 := Fr.snoc X138 N137 g_ca
  have V_pw_139 := (V_pw_136.keep K138 (ninS ne_pw_ca nin0))
  obtain ⟨_, _, ⟨T140, L140, kk140, nn140⟩, -, X140, ⟨Lc140, hQ140, l140, y140, z140⟩, st140⟩ := Jvm.LawKit.callS X138 hx (y := (⟨"com/example/allotrope/allotrope/workload/FieldsWholePinLaw", "ch", "(JII[J)C"⟩ : MethodName)) hown (mvT hZ (hw _ (List.mem_of_getElem? (i := 22) rfl))) (mvT hZ (hw _ (List.mem_of_getElem? (i := 23) rfl))) (mvT hZ (hw _ (List.mem_of_getElem? (i := 24) rfl))) (mvT hZ (hw _ (List.mem_of_getElem? (i := 25) rfl))) (by decide) (backOf (W := 2) (rmC l Z a0 hw [] W pp 4 pw k101 h138 n0 hWn hpp (by decide) V_pw_139) hZ (hw _ (List.mem_of_getElem? (i := 25) rfl)) (hw _ (List.mem_of_getElem? (i := 24) rfl)) (by decide) (by decide)) (g := (mkF m 218 #[.val (.long p1), .second, .val (.int p2), .val (.ref pw), .val (.long (Int64.ofNat W)), .second, .val (.int (Int32.ofNat pp)), .val (.ref ca), .unset, .unset, .unset] [(.ref pw), (.int (4 : Int32)), (.int (Int32.ofNat pp)), (.long (Int64.ofNat W)), (.int (4 : Int32)), (.ref ca)])) rfl (by rw [hml]; rfl) (argsL := [(.long (Int64.ofNat W)), (.int (Int32.ofNat pp)), (.int (4 : Int32)), (.ref pw)]) (rest := [(.int (4 : Int32)), (.ref ca)]) (lenOf pd__JII_J_C rfl) rfl (by show 2 * 0 + _ ≤ _; exact Nat.le_of_eq rfl) (hb hby at_218) (fun _ _ => ⟨rfl, e138, Nat.le_of_ble_eq_true rfl, Nat.le_of_ble_eq_true rfl⟩)
  dsimp only [Pt.U, Pt.locs, Pt.cells, Pt.slots] at X140 l140 y140 z140 st140 hQ140
  subst y140 z140
  obtain ⟨rfl, Nq140, e140⟩ := hQ140
  have N140 : Fr n0 L140 := l140 ▸ Fr.app N138 Nq140
  clear l140
  obtain ⟨cl141, Ar141, q141, S141, M141, Hh141, G141⟩ := id V_ca_138
  obtain ⟨T141, h141, X141, e141, W141, st141⟩ := stC X140 hx hZ e140 Ar141 (j := (4 : Int32)) (inb_of S141 ⟨by decide, by decide⟩) (g := (mkF m 221 #[.val (.long p1), .second, .val (.int p2), .val (.ref pw), .val (.long (Int64.ofNat W)), .second, .val (.int (Int32.ofNat pp)), .val (.ref ca), .unset, .unset, .unset] [(.int (Int32.ofNat (own_ch W pp 4))), (.int (4 : Int32)), (.ref ca)])) rfl rfl (hb hby at_221)
  have V_ca_141 : Arv Z h141 ca k124 .char (19 : Int32) [(.int (nar .char (Int32.ofNat (own_ch W pp 0)))), (.int (nar .char (Int32.ofNat (own_ch W pp 1)))), (.int (nar .char (Int32.ofNat (own_ch W pp 2)))), (.int (nar .char (Int32.ofNat (own_ch W pp 3)))), (.int (nar .char (Int32.ofNat (own_ch W pp 4)))), (.int (0 : Int32)), (.int (0 : Int32)), (.int (0 : Int32)), (.int (0 : Int32)), (.int (0 : Int32)), (.int (0 : Int32)), (.int (0 : Int32)), (.int (0 : Int32)), (.int (0 : Int32)), (.int (0 : Int32)), (.int (0 : Int32)), (.int (0 : Int32)), (.int (0 : Int32)), (.int (0 : Int32))] (.int (0 : Int32)) := Arv.set Ar141 q141 S141 M141 Hh141 G141 (fits_nar_char _) W141 4 rfl (Nat.le_of_ble_eq_true rfl)
  have K141 : Keep h138 h141 [ca] := Keep.of_wr W141
  have N141 := Fr.snoc X141 N140 g_ca
  have V_pw_142 := (V_pw_139.keep K141 (ninS ne_pw_ca nin0))
  obtain ⟨_, _, ⟨T143, L143, kk143, nn143⟩, -, X143, ⟨Lc143, hQ143, l143, y143, z143⟩, st143⟩ := Jvm.LawKit.callS X141 hx (y := (⟨"com/example/allotrope/allotrope/workload/FieldsWholePinLaw", "ch", "(JII[J)C"⟩ : MethodName)) hown (mvT hZ (hw _ (List.mem_of_getElem? (i := 22) rfl))) (mvT hZ (hw _ (List.mem_of_getElem? (i := 23) rfl))) (mvT hZ (hw _ (List.mem_of_getElem? (i := 24) rfl))) (mvT hZ (hw _ (List.mem_of_getElem? (i := 25) rfl))) (by decide) (backOf (W := 2) (rmC l Z a0 hw [] W pp 5 pw k101 h141 n0 hWn hpp (by decide) V_pw_142) hZ (hw _ (List.mem_of_getElem? (i := 25) rfl)) (hw _ (List.mem_of_getElem? (i := 24) rfl)) (by decide) (by decide)) (g := (mkF m 231 #[.val (.long p1), .second, .val (.int p2), .val (.ref pw), .val (.long (Int64.ofNat W)), .second, .val (.int (Int32.ofNat pp)), .val (.ref ca), .unset, .unset, .unset] [(.ref pw), (.int (5 : Int32)), (.int (Int32.ofNat pp)), (.long (Int64.ofNat W)), (.int (5 : Int32)), (.ref ca)])) rfl (by rw [hml]; rfl) (argsL := [(.long (Int64.ofNat W)), (.int (Int32.ofNat pp)), (.int (5 : Int32)), (.ref pw)]) (rest := [(.int (5 : Int32)), (.ref ca)]) (lenOf pd__JII_J_C rfl) rfl (by show 2 * 0 + _ ≤ _; exact Nat.le_of_eq rfl) (hb hby at_231) (fun _ _ => ⟨rfl, e141, Nat.le_of_ble_eq_true rfl, Nat.le_of_ble_eq_true rfl⟩)
  dsimp only [Pt.U, Pt.locs, Pt.cells, Pt.slots] at X143 l143 y143 z143 st143 hQ143
  subst y143 z143
  obtain ⟨rfl, Nq143, e143⟩ := hQ143
  have N143 : Fr n0 L143 := l143 ▸ Fr.app N141 Nq143
  clear l143
  obtain ⟨cl144, Ar144, q144, S144, M144, Hh144, G144⟩ := id V_ca_141
  obtain ⟨T144, h144, X144, e144, W144, st144⟩ := stC X143 hx hZ e143 Ar144 (j := (5 : Int32)) (inb_of S144 ⟨by decide, by decide⟩) (g := (mkF m 234 #[.val (.long p1), .second, .val (.int p2), .val (.ref pw), .val (.long (Int64.ofNat W)), .second, .val (.int (Int32.ofNat pp)), .val (.ref ca), .unset, .unset, .unset] [(.int (Int32.ofNat (own_ch W pp 5))), (.int (5 : Int32)), (.ref ca)])) rfl rfl (hb hby at_234)
  have V_ca_144 : Arv Z h144 ca k124 .char (19 : Int32) [(.int (nar .char (Int32.ofNat (own_ch W pp 0)))), (.int (nar .char (Int32.ofNat (own_ch W pp 1)))), (.int (nar .char (Int32.ofNat (own_ch W pp 2)))), (.int (nar .char (Int32.ofNat (own_ch W pp 3)))), (.int (nar .char (Int32.ofNat (own_ch W pp 4)))), (.int (nar .char (Int32.ofNat (own_ch W pp 5)))), (.int (0 : Int32)), (.int (0 : Int32)), (.int (0 : Int32)), (.int (0 : Int32)), (.int (0 : Int32)), (.int (0 : Int32)), (.int (0 : Int32)), (.int (0 : Int32)), (.int (0 : Int32)), (.int (0 : Int32)), (.int (0 : Int32)), (.int (0 : Int32)), (.int (0 : Int32))] (.int (0 : Int32)) := Arv.set Ar144 q144 S144 M144 Hh144 G144 (fits_nar_char _) W144 5 rfl (Nat.le_of_ble_eq_true rfl)
  have K144 : Keep h141 h144 [ca] := Keep.of_wr W144
  have N144 := Fr.snoc X144 N143 g_ca
  have V_pw_145 := (V_pw_142.keep K144 (ninS ne_pw_ca nin0))
  obtain ⟨_, _, ⟨T146, L146, kk146, nn146⟩, -, X146, ⟨Lc146, hQ146, l146, y146, z146⟩, st146⟩ := Jvm.LawKit.callS X144 hx (y := (⟨"com/example/allotrope/allotrope/workload/FieldsWholePinLaw", "ch", "(JII[J)C"⟩ : MethodName)) hown (mvT hZ (hw _ (List.mem_of_getElem? (i := 22) rfl))) (mvT hZ (hw _ (List.mem_of_getElem? (i := 23) rfl))) (mvT hZ (hw _ (List.mem_of_getElem? (i := 24) rfl))) (mvT hZ (hw _ (List.mem_of_getElem? (i := 25) rfl))) (by decide) (backOf (W := 2) (rmC l Z a0 hw [] W pp 6 pw k101 h144 n0 hWn hpp (by decide) V_pw_145) hZ (hw _ (List.mem_of_getElem? (i := 25) rfl)) (hw _ (List.mem_of_getElem? (i := 24) rfl)) (by decide) (by decide)) (g := (mkF m 246 #[.val (.long p1), .second, .val (.int p2), .val (.ref pw), .val (.long (Int64.ofNat W)), .second, .val (.int (Int32.ofNat pp)), .val (.ref ca), .unset, .unset, .unset] [(.ref pw), (.int (6 : Int32)), (.int (Int32.ofNat pp)), (.long (Int64.ofNat W)), (.int (6 : Int32)), (.ref ca)])) rfl (by rw [hml]; rfl) (argsL := [(.long (Int64.ofNat W)), (.int (Int32.ofNat pp)), (.int (6 : Int32)), (.ref pw)]) (rest := [(.int (6 : Int32)), (.ref ca)]) (lenOf pd__JII_J_C rfl) rfl (by show 2 * 0 + _ ≤ _; exact Nat.le_of_eq rfl) (hb hby at_246) (fun _ _ => ⟨rfl, e144, Nat.le_of_ble_eq_true rfl, Nat.le_of_ble_eq_true rfl⟩)
  dsimp only [Pt.U, Pt.locs, Pt.cells, Pt.slots] at X146 l146 y146 z146 st146 hQ146
  subst y146 z146
  obtain ⟨rfl, Nq146, e146⟩ := hQ146
  have N146 : Fr n0 L146 := l146 ▸ Fr.app N144 Nq146
  clear l146
  obtain ⟨cl147, Ar147, q147, S147, M147, Hh147, G147⟩ := id V_ca_144
  obtain ⟨T147, h147, X147, e147, W147, st147⟩ := stC X146 hx hZ e146 Ar147 (j := (6 : Int32)) (inb_of S147 ⟨by decide, by decide⟩) (g := (mkF m 249 #[.val (.long p1), .second, .val (.int p2), .val (.ref pw), .val (.long (Int64.ofNat W)), .second, .val (.int (Int32.ofNat pp)), .val (.ref ca), .unset, .unset, .unset] [(.int (Int32.ofNat (own_ch W pp 6))), (.int (6 : Int32)), (.ref ca)])) rfl rfl (hb hby at_249)
  have V_ca_147 : Arv Z h147 ca k124 .char (19 : Int32) [(.int (nar .char (Int32.ofNat (own_ch W pp 0)))), (.int (nar .char (Int32.ofNat (own_ch W pp 1)))), (.int (nar .char (Int32.ofNat (own_ch W pp 2)))), (.int (nar .char (Int32.ofNat (own_ch W pp 3)))), (.int (nar .char (Int32.ofNat (own_ch W pp 4)))), (.int (nar .char (Int32.ofNat (own_ch W pp 5)))), (.int (nar .char (Int32.ofNat (own_ch W pp 6)))), (.int (0 : Int32)), (.int (0 : Int32)), (.int (0 : Int32)), (.int (0 : Int32)), (.int (0 : Int32)), (.int (0 : Int32)), (.int (0 : Int32)), (.int (0 : Int32)), (.int (0 : Int32)), (.int (0 : Int32)), (.int (0 : Int32)), (.int (0 : Int32))] (.int (0 : Int32)) := Arv.set Ar147 q147 S147 M147 Hh147 G147 (fits_nar_char _) W147 6 rfl (Nat.le_of_ble_eq_true rfl)
  have K147 : Keep h144 h147 [ca] := Keep.of_wr W147
  have N147 := Fr.snoc X147 N146 g_ca
  have V_pw_148 := (V_pw_145.keep K147 (ninS ne_pw_ca nin0))
  obtain ⟨_, _, ⟨T149, L149, kk149, nn149⟩, -, X149, ⟨Lc149, hQ149, l149, y149, z149⟩, st149⟩ := Jvm.LawKit.callS X147 hx (y := (⟨"com/example/allotrope/allotrope/workload/FieldsWholePinLaw", "ch", "(JII[J)C"⟩ : MethodName)) hown (mvT hZ (hw _ (List.mem_of_getElem? (i := 22) rfl))) (mvT hZ (hw _ (List.mem_of_getElem? (i := 23) rfl))) (mvT hZ (hw _ (List.mem_of_getElem? (i := 24) rfl))) (mvT hZ (hw _ (List.mem_of_getElem? (i := 25) rfl))) (by decide) (backOf (W := 2) (rmC l Z a0 hw [] W pp 7 pw k101 h147 n0 hWn hpp (by decide) V_pw_148) hZ (hw _ (List.mem_of_getElem? (i := 25) rfl)) (hw _ (List.mem_of_getElem? (i := 24) rfl)) (by decide) (by decide)) (g := (mkF m 261 #[.val (.long p1), .second, .val (.int p2), .val (.ref pw), .val (.long (Int64.ofNat W)), .second, .val (.int (Int32.ofNat pp)), .val (.ref ca), .unset, .unset, .unset] [(.ref pw), (.int (7 : Int32)), (.int (Int32.ofNat pp)), (.long (Int64.ofNat W)), (.int (7 : Int32)), (.ref ca)])) rfl (by rw [hml]; rfl) (argsL := [(.long (Int64.ofNat W)), (.int (Int32.ofNat pp)), (.int (7 : Int32)), (.ref pw)]) (rest := [(.int (7 : Int32)), (.ref ca)]) (lenOf pd__JII_J_C rfl) rfl (by show 2 * 0 + _ ≤ _; exact Nat.le_of_eq rfl) (hb hby at_261) (fun _ _ => ⟨rfl, e147, Nat.le_of_ble_eq_true rfl, Nat.le_of_ble_eq_true rfl⟩)
  dsimp only [Pt.U, Pt.locs, Pt.cells, Pt.slots] at X149 l149 y149 z149 st149 hQ149
  subst y149 z149
  obtain ⟨rfl, Nq149, e149⟩ := hQ149
  have N149 : Fr n0 L149 := l149 ▸ Fr.app N147 Nq149
  clear l149
  obtain ⟨cl150, Ar150, q150, S150, M150, Hh150, G150⟩ := id V_ca_147
  obtain ⟨T150, h150, X150, e150, W150, st150⟩ := stC X149 hx hZ e149 Ar150 (j := (7 : Int32)) (inb_of S150 ⟨by decide, by decide⟩) (g := (mkF m 264 #[.val (.long p1), .second, .val (.int p2), .val (.ref pw), .val (.long (Int64.ofNat W)), .second, .val (.int (Int32.ofNat pp)), .val (.ref ca), .unset, .unset, .unset] [(.int (Int32.ofNat (own_ch W pp 7))), (.int (7 : Int32)), (.ref ca)])) rfl rfl (hb hby at_264)
  have V_ca_150 : Arv Z h150 ca k124 .char (19 : Int32) [(.int (nar .char (Int32.ofNat (own_ch W pp 0)))), (.int (nar .char (Int32.ofNat (own_ch W pp 1)))), (.int (nar .char (Int32.ofNat (own_ch W pp 2)))), (.int (nar .char (Int32.ofNat (own_ch W pp 3)))), (.int (nar .char (Int32.ofNat (own_ch W pp 4)))), (.int (nar .char (Int32.ofNat (own_ch W pp 5)))), (.int (nar .char (Int32.ofNat (own_ch W pp 6)))), (.int (nar .char (Int32.ofNat (own_ch W pp 7)))), (.int (0 : Int32)), (.int (0 : Int32)), (.int (0 : Int32)), (.int (0 : Int32)), (.int (0 : Int32)), (.int (0 : Int32)), (.int (0 : Int32)), (.int (0 : Int32)), (.int (0 : Int32)), (.int (0 : Int32)), (.int (0 : Int32))] (.int (0 : Int32)) := Arv.set Ar150 q150 S150 M150 Hh150 G150 (fits_nar_char _) W150 7 rfl (Nat.le_of_ble_eq_true rfl)
  have K150 : Keep h147 h150 [ca] := Keep.of_wr W150
  have N150 := Fr.snoc X150 N149 g_ca
  have V_pw_151 := (V_pw_148.keep K150 (ninS ne_pw_ca nin0))
  obtain ⟨_, _, ⟨T152, L152, kk152, nn152⟩, -, X152, ⟨Lc152, hQ152, l152, y152, z152⟩, st152⟩ := Jvm.LawKit.callS X150 hx (y := (⟨"com/example/allotrope/allotrope/workload/FieldsWholePinLaw", "ch", "(JII[J)C"⟩ : MethodName)) hown (mvT hZ (hw _ (List.mem_of_getElem? (i := 22) rfl))) (mvT hZ (hw _ (List.mem_of_getElem? (i := 23) rfl))) (mvT hZ (hw _ (List.mem_of_getElem? (i := 24) rfl))) (mvT hZ (hw _ (List.mem_of_getElem? (i := 25) rfl))) (by decide) (backOf (W := 2) (rmC l Z a0 hw [] W pp 8 pw k101 h150 n0 hWn hpp (by decide) V_pw_151) hZ (hw _ (List.mem_of_getElem? (i := 25) rfl)) (hw _ (List.mem_of_getElem? (i := 24) rfl)) (by decide) (by decide)) (g := (mkF m 276 #[.val (.long p1), .second, .val (.int p2), .val (.ref pw), .val (.long (Int64.ofNat W)), .second, .val (.int (Int32.ofNat pp)), .val (.ref ca), .unset, .unset, .unset] [(.ref pw), (.int (8 : Int32)), (.int (Int32.ofNat pp)), (.long (Int64.ofNat W)), (.int (8 : Int32)), (.ref ca)])) rfl (by rw [hml]; rfl) (argsL := [(.long (Int64.ofNat W)), (.int (Int32.ofNat pp)), (.int (8 : Int32)), (.ref pw)]) (rest := [(.int (8 : Int32)), (.ref ca)]) (lenOf pd__JII_J_C rfl) rfl (by show 2 * 0 + _ ≤ _; exact Nat.le_of_eq rfl) (hb hby at_276) (fun _ _ => ⟨rfl, e150, Nat.le_of_ble_eq_true rfl, Nat.le_of_ble_eq_true rfl⟩)
  dsimp only [Pt.U, Pt.locs, Pt.cells, Pt.slots] at X152 l152 y152 z152 st152 hQ152
  subst y152 z152
  obtain ⟨rfl, Nq152, e152⟩ := hQ152
  have N152 : Fr n0 L152 := l152 ▸ Fr.app N150 Nq152
  clear l152
  obtain ⟨cl153, Ar153, q153, S153, M153, Hh153, G153⟩ := id V_ca_150
  obtain ⟨T153, h153, X153, e153, W153, st153⟩ := stC X152 hx hZ e152 Ar153 (j := (8 : Int32)) (inb_of S153 ⟨by decide, by decide⟩) (g := (mkF m 279 #[.val (.long p1), .second, .val (.int p2), .val (.ref pw), .val (.long (Int64.ofNat W)), .second, .val (.int (Int32.ofNat pp)), .val (.ref ca), .unset, .unset, .unset] [(.int (Int32.ofNat (own_ch W pp 8))), (.int (8 : Int32)), (.ref ca)])) rfl rfl (hb hby at_279)
  have V_ca_153 : Arv Z h153 ca k124 .char (19 : Int32) [(.int (nar .char (Int32.ofNat (own_ch W pp 0)))), (.int (nar .char (Int32.ofNat (own_ch W pp 1)))), (.int (nar .char (Int32.ofNat (own_ch W pp 2)))), (.int (nar .char (Int32.ofNat (own_ch W pp 3)))), (.int (nar .char (Int32.ofNat (own_ch W pp 4)))), (.int (nar .char (Int32.ofNat (own_ch W pp 5)))), (.int (nar .char (Int32.ofNat (own_ch W pp 6)))), (.int (nar .char (Int32.ofNat (own_ch W pp 7)))), (.int (nar .char (Int32.ofNat (own_ch W pp 8)))), (.int (0 : Int32)), (.int (0 : Int32)), (.int (0 : Int32)), (.int (0 : Int32)), (.int (0 : Int32)), (.int (0 : Int32)), (.int (0 : Int32)), (.int (0 : Int32)), (.int (0 : Int32)), (.int (0 : Int32))] (.int (0 : Int32)) := Arv.set Ar153 q153 S153 M153 Hh153 G153 (fits_nar_char _) W153 8 rfl (Nat.le_of_ble_eq_true rfl)
  have K153 : Keep h150 h153 [ca] := Keep.of_wr W153
  have N153 := Fr.snoc X153 N152 g_ca
  have V_pw_154 := (V_pw_151.keep K153 (ninS ne_pw_ca nin0))
  obtain ⟨_, _, ⟨T155, L155, kk155, nn155⟩, -, X155, ⟨Lc155, hQ155, l155, y155, z155⟩, st155⟩ := Jvm.LawKit.callS X153 hx (y := (⟨"com/example/allotrope/allotrope/workload/FieldsWholePinLaw", "ch", "(JII[J)C"⟩ : MethodName)) hown (mvT hZ (hw _ (List.mem_of_getElem? (i := 22) rfl))) (mvT hZ (hw _ (List.mem_of_getElem? (i := 23) rfl))) (mvT hZ (hw _ (List.mem_of_getElem? (i := 24) rfl))) (mvT hZ (hw _ (List.mem_of_getElem? (i := 25) rfl))) (by decide) (backOf (W := 2) (rmC l Z a0 hw [] W pp 9 pw k101 h153 n0 hWn hpp (by decide) V_pw_154) hZ (hw _ (List.mem_of_getElem? (i := 25) rfl)) (hw _ (List.mem_of_getElem? (i := 24) rfl)) (by decide) (by decide)) (g := (mkF m 291 #[.val (.long p1), .second, .val (.int p2), .val (.ref pw), .val (.long (Int64.ofNat W)), .second, .val (.int (Int32.ofNat pp)), .val (.ref ca), .unset, .unset, .unset] [(.ref pw), (.int (9 : Int32)), (.int (Int32.ofNat pp)), (.long (Int64.ofNat W)), (.int (9 : Int32)), (.ref ca)])) rfl (by rw [hml]; rfl) (argsL := [(.long (Int64.ofNat W)), (.int (Int32.ofNat pp)), (.int (9 : Int32)), (.ref pw)]) (rest := [(.int (9 : Int32)), (.ref ca)]) (lenOf pd__JII_J_C rfl) rfl (by show 2 * 0 + _ ≤ _; exact Nat.le_of_eq rfl) (hb hby at_291) (fun _ _ => ⟨rfl, e153, Nat.le_of_ble_eq_true rfl, Nat.le_of_ble_eq_true rfl⟩)
  dsimp only [Pt.U, Pt.locs, Pt.cells, Pt.slots] at X155 l155 y155 z155 st155 hQ155
  subst y155 z155
  obtain ⟨rfl, Nq155, e155⟩ := hQ155
  have N155 : Fr n0 L155 := l155 ▸ Fr.app N153 Nq155
  clear l155
  obtain ⟨cl156, Ar156, q156, S156, M156, Hh156, G156⟩ := id V_ca_153
  obtain ⟨T156, h156, X156, e156, W156, st156⟩ := stC X155 hx hZ e155 Ar156 (j := (9 : Int32)) (inb_of S156 ⟨by decide, by decide⟩) (g := (mkF m 294 #[.val (.long p1), .second, .val (.int p2), .val (.ref pw), .val (.long (Int64.ofNat W)), .second, .val (.int (Int32.ofNat pp)), .val (.ref ca), .unset, .unset, .unset] [(.int (Int32.ofNat (own_ch W pp 9))), (.int (9 : Int32)), (.ref ca)])) rfl rfl (hb hby at_294)
  have V_ca_156 : Arv Z h156 ca k124 .char (19 : Int32) [(.int (nar .char (Int32.ofNat (own_ch W pp 0)))), (.int (nar .char (Int32.ofNat (own_ch W pp 1)))), (.int (nar .char (Int32.ofNat (own_ch W pp 2)))), (.int (nar .char (Int32.ofNat (own_ch W pp 3)))), (.int (nar .char (Int32.ofNat (own_ch W pp 4)))), (.int (nar .char (Int32.ofNat (own_ch W pp 5)))), (.int (nar .char (Int32.ofNat (own_ch W pp 6)))), (.int (nar .char (Int32.ofNat (own_ch W pp 7)))), (.int (nar .char (Int32.ofNat (own_ch W pp 8)))), (.int (nar .char (Int32.ofNat (own_ch W pp 9)))), (.int (0 : Int32)), (.int (0 : Int32)), (.int (0 : Int32)), (.int (0 : Int32)), (.int (0 : Int32)), (.int (0 : Int32)), (.int (0 : Int32)), (.int (0 : Int32)), (.int (0 : Int32))] (.int (0 : Int32)) := Arv.set Ar156 q156 S156 M156 Hh156 G156 (fits_nar_char _) W156 9 rfl (Nat.le_of_ble_eq_true rfl)
  have K156 : Keep h153 h156 [ca] := Keep.of_wr W156
  have N156 := Fr.snoc X156 N155 g_ca
  have V_pw_157 := (V_pw_154.keep K156 (ninS ne_pw_ca nin0))
  obtain ⟨_, _, ⟨T158, L158, kk158, nn158⟩, -, X158, ⟨Lc158, hQ158, l158, y158, z158⟩, st158⟩ := Jvm.LawKit.callS X156 hx (y := (⟨"com/example/allotrope/allotrope/workload/FieldsWholePinLaw", "ch", "(JII[J)C"⟩ : MethodName)) hown (mvT hZ (hw _ (List.mem_of_getElem? (i := 22) rfl))) (mvT hZ (hw _ (List.mem_of_getElem? (i := 23) rfl))) (mvT hZ (hw _ (List.mem_of_getElem? (i := 24) rfl))) (mvT hZ (hw _ (List.mem_of_getElem? (i := 25) rfl))) (by decide) (backOf (W := 2) (rmC l Z a0 hw [] W pp 10 pw k101 h156 n0 hWn hpp (by decide) V_pw_157) hZ (hw _ (List.mem_of_getElem? (i := 25) rfl)) (hw _ (List.mem_of_getElem? (i := 24) rfl)) (by decide) (by decide)) (g := (mkF m 306 #[.val (.long p1), .second, .val (.int p2), .val (.ref pw), .val (.long (Int64.ofNat W)), .second, .val (.int (Int32.ofNat pp)), .val (.ref ca), .unset, .unset, .unset] [(.ref pw), (.int (10 : Int32)), (.int (Int32.ofNat pp)), (.long (Int64.ofNat W)), (.int (10 : Int32)), (.ref ca)])) rfl (by rw [hml]; rfl) (argsL := [(.long (Int64.ofNat W)), (.int (Int32.ofNat pp)), (.int (10 : Int32)), (.ref pw)]) (rest := [(.int (10 : Int32)), (.ref ca)]) (lenOf pd__JII_J_C rfl) rfl (by show 2 * 0 + _ ≤ _; exact Nat.le_of_eq rfl) (hb hby at_306) (fun _ _ => ⟨rfl, e156, Nat.le_of_ble_eq_true rfl, Nat.le_of_ble_eq_true rfl⟩)
  dsimp only [Pt.U, Pt.locs, Pt.cells, Pt.slots] at X158 l158 y158 z158 st158 hQ158
  subst y158 z158
  obtain ⟨rfl, Nq158, e158⟩ := hQ158
  have N158 : Fr n0 L158 := l158 ▸ Fr.app N156 Nq158
  clear l158
  obtain ⟨cl159, Ar159, q159, S159, M159, Hh159, G159⟩ := id V_ca_156
  obtain ⟨T159, h159, X159, e159, W159, st159⟩ := stC X158 hx hZ e158 Ar159 (j := (10 : Int32)) (inb_of S159 ⟨by decide, by decide⟩) (g := (mkF m 309 #[.val (.long p1), .second, .val (.int p2), .val (.ref pw), .val (.long (Int64.ofNat W)), .second, .val (.int (Int32.ofNat pp)), .val (.ref ca), .unset, .unset, .unset] [(.int (Int32.ofNat (own_ch W pp 10))), (.int (10 : Int32)), (.ref ca)])) rfl rfl (hb hby at_309)
  have V_ca_159 : Arv Z h159 ca k124 .char (19 : Int32) [(.int (nar .char (Int32.ofNat (own_ch W pp 0)))), (.int (nar .char (Int32.ofNat (own_ch W pp 1)))), (.int (nar .char (Int32.ofNat (own_ch W pp 2)))), (.int (nar .char (Int32.ofNat (own_ch W pp 3)))), (.int (nar .char (Int32.ofNat (own_ch W pp 4)))), (.int (nar .char (Int32.ofNat (own_ch W pp 5)))), (.int (nar .char (Int32.ofNat (own_ch W pp 6)))), (.int (nar .char (Int32.ofNat (own_ch W pp 7)))), (.int (nar .char (Int32.ofNat (own_ch W pp 8)))), (.int (nar .char (Int32.ofNat (own_ch W pp 9)))), (.int (nar .char (Int32.ofNat (own_ch W pp 10)))), (.int (0 : Int32)), (.int (0 : Int32)), (.int (0 : Int32)), (.int (0 : Int32)), (.int (0 : Int32)), (.int (0 : Int32)), (.int (0 : Int32)), (.int (0 : Int32))] (.int (0 : Int32)) := Arv.set Ar159 q159 S159 M159 Hh159 G159 (fits_nar_char _) W159 10 rfl (Nat.le_of_ble_eq_true rfl)
  have K159 : Keep h156 h159 [ca] := Keep.of_wr W159
  have N159 := Fr.snoc X159 N158 g_ca
  have V_pw_160 := (V_pw_157.keep K159 (ninS ne_pw_ca nin0))
  obtain ⟨_, _, ⟨T161, L161, kk161, nn161⟩, -, X161, ⟨Lc161, hQ161, l161, y161, z161⟩, st161⟩ := Jvm.LawKit.callS X159 hx (y := (⟨"com/example/allotrope/allotrope/workload/FieldsWholePinLaw", "ch", "(JII[J)C"⟩ : MethodName)) hown (mvT hZ (hw _ (List.mem_of_getElem? (i := 22) rfl))) (mvT hZ (hw _ (List.mem_of_getElem? (i := 23) rfl))) (mvT hZ (hw _ (List.mem_of_getElem? (i := 24) rfl))) (mvT hZ (hw _ (List.mem_of_getElem? (i := 25) rfl))) (by decide) (backOf (W := 2) (rmC l Z a0 hw [] W pp 11 pw k101 h159 n0 hWn hpp (by decide) V_pw_160) hZ (hw _ (List.mem_of_getElem? (i := 25) rfl)) (hw _ (List.mem_of_getElem? (i := 24) rfl)) (by decide) (by decide)) (g := (mkF m 321 #[.val (.long p1), .second, .val (.int p2), .val (.ref pw), .val (.long (Int64.ofNat W)), .second, .val (.int (Int32.ofNat pp)), .val (.ref ca), .unset, .unset, .unset] [(.ref pw), (.int (11 : Int32)), (.int (Int32.ofNat pp)), (.long (Int64.ofNat W)), (.int (11 : Int32)), (.ref ca)])) rfl (by rw [hml]; rfl) (argsL := [(.long (Int64.ofNat W)), (.int (Int32.ofNat pp)), (.int (11 : Int32)), (.ref pw)]) (rest := [(.int (11 : Int32)), (.ref ca)]) (lenOf pd__JII_J_C rfl) rfl (by show 2 * 0 + _ ≤ _; exact Nat.le_of_eq rfl) (hb hby at_321) (fun _ _ => ⟨rfl, e159, Nat.le_of_ble_eq_true rfl, Nat.le_of_ble_eq_true rfl⟩)
  dsimp only [Pt.U, Pt.locs, Pt.cells, Pt.slots] at X161 l161 y161 z161 st161 hQ161
  subst y161 z161
  obtain ⟨rfl, Nq161, e161⟩ := hQ161
  have N161 : Fr n0 L161 := l161 ▸ Fr.app N159 Nq161
  clear l161
  obtain ⟨cl162, Ar162, q162, S162, M162, Hh162, G162⟩ := id V_ca_159
  obtain ⟨T162, h162, X162, e162, W162, st162⟩ := stC X161 hx hZ e161 Ar162 (j := (11 : Int32)) (inb_of S162 ⟨by decide, by decide⟩) (g := (mkF m 324 #[.val (.long p1), .second, .val (.int p2), .val (.ref pw), .val (.long (Int64.ofNat W)), .second, .val (.int (Int32.ofNat pp)), .val (.ref ca), .unset, .unset, .unset] [(.int (Int32.ofNat (own_ch W pp 11))), (.int (11 : Int32)), (.ref ca)])) rfl rfl (hb hby at_324)
  have V_ca_162 : Arv Z h162 ca k124 .char (19 : Int32) [(.int (nar .char (Int32.ofNat (own_ch W pp 0)))), (.int (nar .char (Int32.ofNat (own_ch W pp 1)))), (.int (nar .char (Int32.ofNat (own_ch W pp 2)))), (.int (nar .char (Int32.ofNat (own_ch W pp 3)))), (.int (nar .char (Int32.ofNat (own_ch W pp 4)))), (.int (nar .char (Int32.ofNat (own_ch W pp 5)))), (.int (nar .char (Int32.ofNat (own_ch W pp 6)))), (.int (nar .char (Int32.ofNat (own_ch W pp 7)))), (.int (nar .char (Int32.ofNat (own_ch W pp 8)))), (.int (nar .char (Int32.ofNat (own_ch W pp 9)))), (.int (nar .char (Int32.ofNat (own_ch W pp 10)))), (.int (nar .char (Int32.ofNat (own_ch W pp 11)))), (.int (0 : Int32)), (.int (0 : Int32)), (.int (0 : Int32)), (.int (0 : Int32)), (.int (0 : Int32)), (.int (0 : Int32)), (.int (0 : Int32))] (.int (0 : Int32)) := Arv.set Ar162 q162 S162 M162 Hh162 G162 (fits_nar_char _) W162 11 rfl (Nat.le_of_ble_eq_true rfl)
  have K162 : Keep h159 h162 [ca] := Keep.of_wr W162
  have N162 := Fr.snoc X162 N161 g_ca
  have V_pw_163 := (V_pw_160.keep K162 (ninS ne_pw_ca nin0))
  obtain ⟨_, _, ⟨T164, L164, kk164, nn164⟩, -, X164, ⟨Lc164, hQ164, l164, y164, z164⟩, st164⟩ := Jvm.LawKit.callS X162 hx (y := (⟨"com/example/allotrope/allotrope/workload/FieldsWholePinLaw", "ch", "(JII[J)C"⟩ : MethodName)) hown (mvT hZ (hw _ (List.mem_of_getElem? (i := 22) rfl))) (mvT hZ (hw _ (List.mem_of_getElem? (i := 23) rfl))) (mvT hZ (hw _ (List.mem_of_getElem? (i := 24) rfl))) (mvT hZ (hw _ (List.mem_of_getElem? (i := 25) rfl))) (by decide) (backOf (W := 2) (rmC l Z a0 hw [] W pp 12 pw k101 h162 n0 hWn hpp (by decide) V_pw_163) hZ (hw _ (List.mem_of_getElem? (i := 25) rfl)) (hw _ (List.mem_of_getElem? (i := 24) rfl)) (by decide) (by decide)) (g := (mkF m 336 #[.val (.long p1), .second, .val (.int p2), .val (.ref pw), .val (.long (Int64.ofNat W)), .second, .val (.int (Int32.ofNat pp)), .val (.ref ca), .unset, .unset, .unset] [(.ref pw), (.int (12 : Int32)), (.int (Int32.ofNat pp)), (.long (Int64.ofNat W)), (.int (12 : Int32)), (.ref ca)])) rfl (by rw [hml]; rfl) (argsL := [(.long (Int64.ofNat W)), (.int (Int32.ofNat pp)), (.int (12 : Int32)), (.ref pw)]) (rest := [(.int (12 : Int32)), (.ref ca)]) (lenOf pd__JII_J_C rfl) rfl (by show 2 * 0 + _ ≤ _; exact Nat.le_of_eq rfl) (hb hby at_336) (fun _ _ => ⟨rfl, e162, Nat.le_of_ble_eq_true rfl, Nat.le_of_ble_eq_true rfl⟩)
  dsimp only [Pt.U, Pt.locs, Pt.cells, Pt.slots] at X164 l164 y164 z164 st164 hQ164
  subst y164 z164
  obtain ⟨rfl, Nq164, e164⟩ := hQ164
  have N164 : Fr n0 L164 := l164 ▸ Fr.app N162 Nq164
  clear l164
  obtain ⟨cl165, Ar165, q165, S165, M165, Hh165, G165⟩ := id V_ca_162
  obtain ⟨T165, h165, X165, e165, W165, st165⟩ := stC X164 hx hZ e164 Ar165 (j := (12 : Int32)) (inb_of S165 ⟨by decide, by decide⟩) (g := (mkF m 339 #[.val (.long p1), .second, .val (.int p2), .val (.ref pw), .val (.long (Int64.ofNat W)), .second, .val (.int (Int32.ofNat pp)), .val (.ref ca), .unset, .unset, .unset] [(.int (Int32.ofNat (own_ch W pp 12))), (.int (12 : Int32)), (.ref ca)])) rfl rfl (hb hby at_339)
  have V_ca_165 : Arv Z h165 ca k124 .char (19 : Int32) [(.int (nar .char (Int32.ofNat (own_ch W pp 0)))), (.int (nar .char (Int32.ofNat (own_ch W pp 1)))), (.int (nar .char (Int32.ofNat (own_ch W pp 2)))), (.int (nar .char (Int32.ofNat (own_ch W pp 3)))), (.int (nar .char (Int32.ofNat (own_ch W pp 4)))), (.int (nar .char (Int32.ofNat (own_ch W pp 5)))), (.int (nar .char (Int32.ofNat (own_ch W pp 6)))), (.int (nar .char (Int32.ofNat (own_ch W pp 7)))), (.int (nar .char (Int32.ofNat (own_ch W pp 8)))), (.int (nar .char (Int32.ofNat (own_ch W pp 9)))), (.int (nar .char (Int32.ofNat (own_ch W pp 10)))), (.int (nar .char (Int32.ofNat (own_ch W pp 11)))), (.int (nar .char (Int32.ofNat (own_ch W pp 12)))), (.int (0 : Int32)), (.int (0 : Int32)), (.int (0 : Int32)), (.int (0 : Int32)), (.int (0 : Int32)), (.int (0 : Int32))] (.int (0 : Int32)) := Arv.set Ar165 q165 S165 M165 Hh165 G165 (fits_nar_char _) W165 12 rfl (Nat.le_of_ble_eq_true rfl)
  have K165 : Keep h162 h165 [ca] := Keep.of_wr W165
  have N165 := Fr.snoc X165 N164 g_ca
  have V_pw_166 := (V_pw_163.keep K165 (ninS ne_pw_ca nin0))
  obtain ⟨_, _, ⟨T167, L167, kk167, nn167⟩, -, X167, ⟨Lc167, hQ167, l167, y167, z167⟩, st167⟩ := Jvm.LawKit.callS X165 hx (y := (⟨"com/example/allotrope/allotrope/workload/FieldsWholePinLaw", "ch", "(JII[J)C"⟩ : MethodName)) hown (mvT hZ (hw _ (List.mem_of_getElem? (i := 22) rfl))) (mvT hZ (hw _ (List.mem_of_getElem? (i := 23) rfl))) (mvT hZ (hw _ (List.mem_of_getElem? (i := 24) rfl))) (mvT hZ (hw _ (List.mem_of_getElem? (i := 25) rfl))) (by decide) (backOf (W := 2) (rmC l Z a0 hw [] W pp 13 pw k101 h165 n0 hWn hpp (by decide) V_pw_166) hZ (hw _ (List.mem_of_getElem? (i := 25) rfl)) (hw _ (List.mem_of_getElem? (i := 24) rfl)) (by decide) (by decide)) (g := (mkF m 351 #[.val (.long p1), .second, .val (.int p2), .val (.ref pw), .val (.long (Int64.ofNat W)), .second, .val (.int (Int32.ofNat pp)), .val (.ref ca), .unset, .unset, .unset] [(.ref pw), (.int (13 : Int32)), (.int (Int32.ofNat pp)), (.long (Int64.ofNat W)), (.int (13 : Int32)), (.ref ca)])) rfl (by rw [hml]; rfl) (argsL := [(.long (Int64.ofNat W)), (.int (Int32.ofNat pp)), (.int (13 : Int32)), (.ref pw)]) (rest := [(.int (13 : Int32)), (.ref ca)]) (lenOf pd__JII_J_C rfl) rfl (by show 2 * 0 + _ ≤ _; exact Nat.le_of_eq rfl) (hb hby at_351) (fun _ _ => ⟨rfl, e165, Nat.le_of_ble_eq_true rfl, Nat.le_of_ble_eq_true rfl⟩)
  dsimp only [Pt.U, Pt.locs, Pt.cells, Pt.slots] at X167 l167 y167 z167 st167 hQ167
  subst y167 z167
  obtain ⟨rfl, Nq167, e167⟩ := hQ167
  have N167 : Fr n0 L167 := l167 ▸ Fr.app N165 Nq167
  clear l167
  obtain ⟨cl168, Ar168, q168, S168, M168, Hh168, G168⟩ := id V_ca_165
  obtain ⟨T168, h168, X168, e168, W168, st168⟩ := stC X167 hx hZ e167 Ar168 (j := (13 : Int32)) (inb_of S168 ⟨by decide, by decide⟩) (g := (mkF m 354 #[.val (.long p1), .second, .val (.int p2), .val (.ref pw), .val (.long (Int64.ofNat W)), .second, .val (.int (Int32.ofNat pp)), .val (.ref ca), .unset, .unset, .unset] [(.int (Int32.ofNat (own_ch W pp 13))), (.int (13 : Int32)), (.ref ca)])) rfl rfl (hb hby at_354)
  have V_ca_168 : Arv Z h168 ca k124 .char (19 : Int32) [(.int (nar .char (Int32.ofNat (own_ch W pp 0)))), (.int (nar .char (Int32.ofNat (own_ch W pp 1)))), (.int (nar .char (Int32.ofNat (own_ch W pp 2)))), (.int (nar .char (Int32.ofNat (own_ch W pp 3)))), (.int (nar .char (Int32.ofNat (own_ch W pp 4)))), (.int (nar .char (Int32.ofNat (own_ch W pp 5)))), (.int (nar .char (Int32.ofNat (own_ch W pp 6)))), (.int (nar .char (Int32.ofNat (own_ch W pp 7)))), (.int (nar .char (Int32.ofNat (own_ch W pp 8)))), (.int (nar .char (Int32.ofNat (own_ch W pp 9)))), (.int (nar .char (Int32.ofNat (own_ch W pp 10)))), (.int (nar .char (Int32.ofNat (own_ch W pp 11)))), (.int (nar .char (Int32.ofNat (own_ch W pp 12)))), (.int (nar .char (Int32.ofNat (own_ch W pp 13)))), (.int (0 : Int32)), (.int (0 : Int32)), (.int (0 : Int32)), (.int (0 : Int32)), (.int (0 : Int32))] (.int (0 : Int32)) := Arv.set Ar168 q168 S168 M168 Hh168 G168 (fits_nar_char _) W168 13 rfl (Nat.le_of_ble_eq_true rfl)
  have K168 : Keep h165 h168 [ca] := Keep.of_wr W168
  have N168 := Fr.snoc X168 N167 g_ca
  have V_pw_169 := (V_pw_166.keep K168 (ninS ne_pw_ca nin0))
  obtain ⟨_, _, ⟨T170, L170, kk170, nn170⟩, -, X170, ⟨Lc170, hQ170, l170, y170, z170⟩, st170⟩ := Jvm.LawKit.callS X168 hx (y := (⟨"com/example/allotrope/allotrope/workload/FieldsWholePinLaw", "ch", "(JII[J)C"⟩ : MethodName)) hown (mvT hZ (hw _ (List.mem_of_getElem? (i := 22) rfl))) (mvT hZ (hw _ (List.mem_of_getElem? (i := 23) rfl))) (mvT hZ (hw _ (List.mem_of_getElem? (i := 24) rfl))) (mvT hZ (hw _ (List.mem_of_getElem? (i := 25) rfl))) (by decide) (backOf (W := 2) (rmC l Z a0 hw [] W pp 14 pw k101 h168 n0 hWn hpp (by decide) V_pw_169) hZ (hw _ (List.mem_of_getElem? (i := 25) rfl)) (hw _ (List.mem_of_getElem? (i := 24) rfl)) (by decide) (by decide)) (g := (mkF m 366 #[.val (.long p1), .second, .val (.int p2), .val (.ref pw), .val (.long (Int64.ofNat W)), .second, .val (.int (Int32.ofNat pp)), .val (.ref ca), .unset, .unset, .unset] [(.ref pw), (.int (14 : Int32)), (.int (Int32.ofNat pp)), (.long (Int64.ofNat W)), (.int (14 : Int32)), (.ref ca)])) rfl (by rw [hml]; rfl) (argsL := [(.long (Int64.ofNat W)), (.int (Int32.ofNat pp)), (.int (14 : Int32)), (.ref pw)]) (rest := [(.int (14 : Int32)), (.ref ca)]) (lenOf pd__JII_J_C rfl) rfl (by show 2 * 0 + _ ≤ _; exact Nat.le_of_eq rfl) (hb hby at_366) (fun _ _ => ⟨rfl, e168, Nat.le_of_ble_eq_true rfl, Nat.le_of_ble_eq_true rfl⟩)
  dsimp only [Pt.U, Pt.locs, Pt.cells, Pt.slots] at X170 l170 y170 z170 st170 hQ170
  subst y170 z170
  obtain ⟨rfl, Nq170, e170⟩ := hQ170
  have N170 : Fr n0 L170 := l170 ▸ Fr.app N168 Nq170
  clear l170
  obtain ⟨cl171, Ar171, q171, S171, M171, Hh171, G171⟩ := id V_ca_168
  obtain ⟨T171, h171, X171, e171, W171, st171⟩ := stC X170 hx hZ e170 Ar171 (j := (14 : Int32)) (inb_of S171 ⟨by decide, by decide⟩) (g := (mkF m 369 #[.val (.long p1), .second, .val (.int p2), .val (.ref pw), .val (.long (Int64.ofNat W)), .second, .val (.int (Int32.ofNat pp)), .val (.ref ca), .unset, .unset, .unset] [(.int (Int32.ofNat (own_ch W pp 14))), (.int (14 : Int32)), (.ref ca)])) rfl rfl (hb hby at_369)
  have V_ca_171 : Arv Z h171 ca k124 .char (19 : Int32) [(.int (nar .char (Int32.ofNat (own_ch W pp 0)))), (.int (nar .char (Int32.ofNat (own_ch W pp 1)))), (.int (nar .char (Int32.ofNat (own_ch W pp 2)))), (.int (nar .char (Int32.ofNat (own_ch W pp 3)))), (.int (nar .char (Int32.ofNat (own_ch W pp 4)))), (.int (nar .char (Int32.ofNat (own_ch W pp 5)))), (.int (nar .char (Int32.ofNat (own_ch W pp 6)))), (.int (nar .char (Int32.ofNat (own_ch W pp 7)))), (.int (nar .char (Int32.ofNat (own_ch W pp 8)))), (.int (nar .char (Int32.ofNat (own_ch W pp 9)))), (.int (nar .char (Int32.ofNat (own_ch W pp 10)))), (.int (nar .char (Int32.ofNat (own_ch W pp 11)))), (.int (nar .char (Int32.ofNat (own_ch W pp 12)))), (.int (nar .char (Int32.ofNat (own_ch W pp 13)))), (.int (nar .char (Int32.ofNat (own_ch W pp 14)))), (.int (0 : Int32)), (.int (0 : Int32)), (.int (0 : Int32)), (.int (0 : Int32))] (.int (0 : Int32)) := Arv.set Ar171 q171 S171 M171 Hh171 G171 (fits_nar_char _) W171 14 rfl (Nat.le_of_ble_eq_true rfl)
  have K171 : Keep h168 h171 [ca] := Keep.of_wr W171
  have N171 := Fr.snoc X171 N170 g_ca
  have V_pw_172 := (V_pw_169.keep K171 (ninS ne_pw_ca nin0))
  obtain ⟨_, _, ⟨T173, L173, kk173, nn173⟩, -, X173, ⟨Lc173, hQ173, l173, y173, z173⟩, st173⟩ := Jvm.LawKit.callS X171 hx (y := (⟨"com/example/allotrope/allotrope/workload/FieldsWholePinLaw", "ch", "(JII[J)C"⟩ : MethodName)) hown (mvT hZ (hw _ (List.mem_of_getElem? (i := 22) rfl))) (mvT hZ (hw _ (List.mem_of_getElem? (i := 23) rfl))) (mvT hZ (hw _ (List.mem_of_getElem? (i := 24) rfl))) (mvT hZ (hw _ (List.mem_of_getElem? (i := 25) rfl))) (by decide) (backOf (W := 2) (rmC l Z a0 hw [] W pp 15 pw k101 h171 n0 hWn hpp (by decide) V_pw_172) hZ (hw _ (List.mem_of_getElem? (i := 25) rfl)) (hw _ (List.mem_of_getElem? (i := 24) rfl)) (by decide) (by decide)) (g := (mkF m 381 #[.val (.long p1), .second, .val (.int p2), .val (.ref pw), .val (.long (Int64.ofNat W)), .second, .val (.int (Int32.ofNat pp)), .val (.ref ca), .unset, .unset, .unset] [(.ref pw), (.int (15 : Int32)), (.int (Int32.ofNat pp)), (.long (Int64.ofNat W)), (.int (15 : Int32)), (.ref ca)])) rfl (by rw [hml]; rfl) (argsL := [(.long (Int64.ofNat W)), (.int (Int32.ofNat pp)), (.int (15 : Int32)), (.ref pw)]) (rest := [(.int (15 : Int32)), (.ref ca)]) (lenOf pd__JII_J_C rfl) rfl (by show 2 * 0 + _ ≤ _; exact Nat.le_of_eq rfl) (hb hby at_381) (fun _ _ => ⟨rfl, e171, Nat.le_of_ble_eq_true rfl, Nat.le_of_ble_eq_true rfl⟩)
  dsimp only [Pt.U, Pt.locs, Pt.cells, Pt.slots] at X173 l173 y173 z173 st173 hQ173
  subst y173 z173
  obtain ⟨rfl, Nq173, e173⟩ := hQ173
  have N173 : Fr n0 L173 := l173 ▸ Fr.app N171 Nq173
  clear l173
  obtain ⟨cl174, Ar174, q174, S174, M174, Hh174, G174⟩ := id V_ca_171
  obtain ⟨T174, h174, X174, e174, W174, st174⟩ := stC X173 hx hZ e173 Ar174 (j := (15 : Int32)) (inb_of S174 ⟨by decide, by decide⟩) (g := (mkF m 384 #[.val (.long p1), .second, .val (.int p2), .val (.ref pw), .val (.long (Int64.ofNat W)), .second, .val (.int (Int32.ofNat pp)), .val (.ref ca), .unset, .unset, .unset] [(.int (Int32.ofNat (own_ch W pp 15))), (.int (15 : Int32)), (.ref ca)])) rfl rfl (hb hby at_384)
  have V_ca_174 : Arv Z h174 ca k124 .char (19 : Int32) [(.int (nar .char (Int32.ofNat (own_ch W pp 0)))), (.int (nar .char (Int32.ofNat (own_ch W pp 1)))), (.int (nar .char (Int32.ofNat (own_ch W pp 2)))), (.int (nar .char (Int32.ofNat (own_ch W pp 3)))), (.int (nar .char (Int32.ofNat (own_ch W pp 4)))), (.int (nar .char (Int32.ofNat (own_ch W pp 5)))), (.int (nar .char (Int32.ofNat (own_ch W pp 6)))), (.int (nar .char (Int32.ofNat (own_ch W pp 7)))), (.int (nar .char (Int32.ofNat (own_ch W pp 8)))), (.int (nar .char (Int32.ofNat (own_ch W pp 9)))), (.int (nar .char (Int32.ofNat (own_ch W pp 10)))), (.int (nar .char (Int32.ofNat (own_ch W pp 11)))), (.int (nar .char (Int32.ofNat (own_ch W pp 12)))), (.int (nar .char (Int32.ofNat (own_ch W pp 13)))), (.int (nar .char (Int32.ofNat (own_ch W pp 14)))), (.int (nar .char (Int32.ofNat (own_ch W pp 15)))), (.int (0 : Int32)), (.int (0 : Int32)), (.int (0 : Int32))] (.int (0 : Int32)) := Arv.set Ar174 q174 S174 M174 Hh174 G174 (fits_nar_char _) W174 15 rfl (Nat.le_of_ble_eq_true rfl)
  have K174 : Keep h171 h174 [ca] := Keep.of_wr W174
  have N174 := Fr.snoc X174 N173 g_ca
  have V_pw_175 := (V_pw_172.keep K174 (ninS ne_pw_ca nin0))
  obtain ⟨_, _, ⟨T176, L176, kk176, nn176⟩, -, X176, ⟨Lc176, hQ176, l176, y176, z176⟩, st176⟩ := Jvm.LawKit.callS X174 hx (y := (⟨"com/example/allotrope/allotrope/workload/FieldsWholePinLaw", "ch", "(JII[J)C"⟩ : MethodName)) hown (mvT hZ (hw _ (List.mem_of_getElem? (i := 22) rfl))) (mvT hZ (hw _ (List.mem_of_getElem? (i := 23) rfl))) (mvT hZ (hw _ (List.mem_of_getElem? (i := 24) rfl))) (mvT hZ (hw _ (List.mem_of_getElem? (i := 25) rfl))) (by decide) (backOf (W := 2) (rmC l Z a0 hw [] W pp 16 pw k101 h174 n0 hWn hpp (by decide) V_pw_175) hZ (hw _ (List.mem_of_getElem? (i := 25) rfl)) (hw _ (List.mem_of_getElem? (i := 24) rfl)) (by decide) (by decide)) (g := (mkF m 396 #[.val (.long p1), .second, .val (.int p2), .val (.ref pw), .val (.long (Int64.ofNat W)), .second, .val (.int (Int32.ofNat pp)), .val (.ref ca), .unset, .unset, .unset] [(.ref pw), (.int (16 : Int32)), (.int (Int32.ofNat pp)), (.long (Int64.ofNat W)), (.int (16 : Int32)), (.ref ca)])) rfl (by rw [hml]; rfl) (argsL := [(.long (Int64.ofNat W)), (.int (Int32.ofNat pp)), (.int (16 : Int32)), (.ref pw)]) (rest := [(.int (16 : Int32)), (.ref ca)]) (lenOf pd__JII_J_C rfl) rfl (by show 2 * 0 + _ ≤ _; exact Nat.le_of_eq rfl) (hb hby at_396) (fun _ _ => ⟨rfl, e174, Nat.le_of_ble_eq_true rfl, Nat.le_of_ble_eq_true rfl⟩)
  dsimp only [Pt.U, Pt.locs, Pt.cells, Pt.slots] at X176 l176 y176 z176 st176 hQ176
  subst y176 z176
  obtain ⟨rfl, Nq176, e176⟩ := hQ176
  have N176 : Fr n0 L176 := l176 ▸ Fr.app N174 Nq176
  clear l176
  obtain ⟨cl177, Ar177, q177, S177, M177, Hh177, G177⟩ := id V_ca_174
  obtain ⟨T177, h177, X177, e177, W177, st177⟩ := stC X176 hx hZ e176 Ar177 (j := (16 : Int32)) (inb_of S177 ⟨by decide, by decide⟩) (g := (mkF m 399 #[.val (.long p1), .second, .val (.int p2), .val (.ref pw), .val (.long (Int64.ofNat W)), .second, .val (.int (Int32.ofNat pp)), .val (.ref ca), .unset, .unset, .unset] [(.int (Int32.ofNat (own_ch W pp 16))), (.int (16 : Int32)), (.ref ca)])) rfl rfl (hb hby at_399)
  have V_ca_177 : Arv Z h177 ca k124 .char (19 : Int32) [(.int (nar .char (Int32.ofNat (own_ch W pp 0)))), (.int (nar .char (Int32.ofNat (own_ch W pp 1)))), (.int (nar .char (Int32.ofNat (own_ch W pp 2)))), (.int (nar .char (Int32.ofNat (own_ch W pp 3)))), (.int (nar .char (Int32.ofNat (own_ch W pp 4)))), (.int (nar .char (Int32.ofNat (own_ch W pp 5)))), (.int (nar .char (Int32.ofNat (own_ch W pp 6)))), (.int (nar .char (Int32.ofNat (own_ch W pp 7)))), (.int (nar .char (Int32.ofNat (own_ch W pp 8)))), (.int (nar .char (Int32.ofNat (own_ch W pp 9)))), (.int (nar .char (Int32.ofNat (own_ch W pp 10)))), (.int (nar .char (Int32.ofNat (own_ch W pp 11)))), (.int (nar .char (Int32.ofNat (own_ch W pp 12)))), (.int (nar .char (Int32.ofNat (own_ch W pp 13)))), (.int (nar .char (Int32.ofNat (own_ch W pp 14)))), (.int (nar .char (Int32.ofNat (own_ch W pp 15)))), (.int (nar .char (Int32.ofNat (own_ch W pp 16)))), (.int (0 : Int32)), (.int (0 : Int32))] (.int (0 : Int32)) := Arv.set Ar177 q177 S177 M177 Hh177 G177 (fits_nar_char _) W177 16 rfl (Nat.le_of_ble_eq_true rfl)
  have K177 : Keep h174 h177 [ca] := Keep.of_wr W177
  have N177 := Fr.snoc X177 N176 g_ca
  have V_pw_178 := (V_pw_175.keep K177 (ninS ne_pw_ca nin0))
  obtain ⟨_, _, ⟨T179, L179, kk179, nn179⟩, -, X179, ⟨Lc179, hQ179, l179, y179, z179⟩, st179⟩ := Jvm.LawKit.callS X177 hx (y := (⟨"com/example/allotrope/allotrope/workload/FieldsWholePinLaw", "ch", "(JII[J)C"⟩ : MethodName)) hown (mvT hZ (hw _ (List.mem_of_getElem? (i := 22) rfl))) (mvT hZ (hw _ (List.mem_of_getElem? (i := 23) rfl))) (mvT hZ (hw _ (List.mem_of_getElem? (i := 24) rfl))) (mvT hZ (hw _ (List.mem_of_getElem? (i := 25) rfl))) (by decide) (backOf (W := 2) (rmC l Z a0 hw [] W pp 17 pw k101 h177 n0 hWn hpp (by decide) V_pw_178) hZ (hw _ (List.mem_of_getElem? (i := 25) rfl)) (hw _ (List.mem_of_getElem? (i := 24) rfl)) (by decide) (by decide)) (g := (mkF m 411 #[.val (.long p1), .second, .val (.int p2), .val (.ref pw), .val (.long (Int64.ofNat W)), .second, .val (.int (Int32.ofNat pp)), .val (.ref ca), .unset, .unset, .unset] [(.ref pw), (.int (17 : Int32)), (.int (Int32.ofNat pp)), (.long (Int64.ofNat W)), (.int (17 : Int32)), (.ref ca)])) rfl (by rw [hml]; rfl) (argsL := [(.long (Int64.ofNat W)), (.int (Int32.ofNat pp)), (.int (17 : Int32)), (.ref pw)]) (rest := [(.int (17 : Int32)), (.ref ca)]) (lenOf pd__JII_J_C rfl) rfl (by show 2 * 0 + _ ≤ _; exact Nat.le_of_eq rfl) (hb hby at_411) (fun _ _ => ⟨rfl, e177, Nat.le_of_ble_eq_true rfl, Nat.le_of_ble_eq_true rfl⟩)
  dsimp only [Pt.U, Pt.locs, Pt.cells, Pt.slots] at X179 l179 y179 z179 st179 hQ179
  subst y179 z179
  obtain ⟨rfl, Nq179, e179⟩ := hQ179
  have N179 : Fr n0 L179 := l179 ▸ Fr.app N177 Nq179
  clear l179
  obtain ⟨cl180, Ar180, q180, S180, M180, Hh180, G180⟩ := id V_ca_177
  obtain ⟨T180, h180, X180, e180, W180, st180⟩ := stC X179 hx hZ e179 Ar180 (j := (17 : Int32)) (inb_of S180 ⟨by decide, by decide⟩) (g := (mkF m 414 #[.val (.long p1), .second, .val (.int p2), .val (.ref pw), .val (.long (Int64.ofNat W)), .second, .val (.int (Int32.ofNat pp)), .val (.ref ca), .unset, .unset, .unset] [(.int (Int32.ofNat (own_ch W pp 17))), (.int (17 : Int32)), (.ref ca)])) rfl rfl (hb hby at_414)
  have V_ca_180 : Arv Z h180 ca k124 .char (19 : Int32) [(.int (nar .char (Int32.ofNat (own_ch W pp 0)))), (.int (nar .char (Int32.ofNat (own_ch W pp 1)))), (.int (nar .char (Int32.ofNat (own_ch W pp 2)))), (.int (nar .char (Int32.ofNat (own_ch W pp 3)))), (.int (nar .char (Int32.ofNat (own_ch W pp 4)))), (.int (nar .char (Int32.ofNat (own_ch W pp 5)))), (.int (nar .char (Int32.ofNat (own_ch W pp 6)))), (.int (nar .char (Int32.ofNat (own_ch W pp 7)))), (.int (nar .char (Int32.ofNat (own_ch W pp 8)))), (.int (nar .char (Int32.ofNat (own_ch W pp 9)))), (.int (nar .char (Int32.ofNat (own_ch W pp 10)))), (.int (nar .char (Int32.ofNat (own_ch W pp 11)))), (.int (nar .char (Int32.ofNat (own_ch W pp 12)))), (.int (nar .char (Int32.ofNat (own_ch W pp 13)))), (.int (nar .char (Int32.ofNat (own_ch W pp 14)))), (.int (nar .char (Int32.ofNat (own_ch W pp 15)))), (.int (nar .char (Int32.ofNat (own_ch W pp 16)))), (.int (nar .char (Int32.ofNat (own_ch W pp 17)))), (.int (0 : Int32))] (.int (0 : Int32)) := Arv.set Ar180 q180 S180 M180 Hh180 G180 (fits_nar_char _) W180 17 rfl (Nat.le_of_ble_eq_true rfl)
  have K180 : Keep h177 h180 [ca] := Keep.of_wr W180
  have N180 := Fr.snoc X180 N179 g_ca
  have V_pw_181 := (V_pw_178.keep K180 (ninS ne_pw_ca nin0))
  obtain ⟨_, _, ⟨T182, L182, kk182, nn182⟩, -, X182, ⟨Lc182, hQ182, l182, y182, z182⟩, st182⟩ := Jvm.LawKit.callS X180 hx (y := (⟨"com/example/allotrope/allotrope/workload/FieldsWholePinLaw", "ch", "(JII[J)C"⟩ : MethodName)) hown (mvT hZ (hw _ (List.mem_of_getElem? (i := 22) rfl))) (mvT hZ (hw _ (List.mem_of_getElem? (i := 23) rfl))) (mvT hZ (hw _ (List.mem_of_getElem? (i := 24) rfl))) (mvT hZ (hw _ (List.mem_of_getElem? (i := 25) rfl))) (by decide) (backOf (W := 2) (rmC l Z a0 hw [] W pp 18 pw k101 h180 n0 hWn hpp (by decide) V_pw_181) hZ (hw _ (List.mem_of_getElem? (i := 25) rfl)) (hw _ (List.mem_of_getElem? (i := 24) rfl)) (by decide) (by decide)) (g := (mkF m 426 #[.val (.long p1), .second, .val (.int p2), .val (.ref pw), .val (.long (Int64.ofNat W)), .second, .val (.int (Int32.ofNat pp)), .val (.ref ca), .unset, .unset, .unset] [(.ref pw), (.int (18 : Int32)), (.int (Int32.ofNat pp)), (.long (Int64.ofNat W)), (.int (18 : Int32)), (.ref ca)])) rfl (by rw [hml]; rfl) (argsL := [(.long (Int64.ofNat W)), (.int (Int32.ofNat pp)), (.int (18 : Int32)), (.ref pw)]) (rest := [(.int (18 : Int32)), (.ref ca)]) (lenOf pd__JII_J_C rfl) rfl (by show 2 * 0 + _ ≤ _; exact Nat.le_of_eq rfl) (hb hby at_426) (fun _ _ => ⟨rfl, e180, Nat.le_of_ble_eq_true rfl, Nat.le_of_ble_eq_true rfl⟩)
  dsimp only [Pt.U, Pt.locs, Pt.cells, Pt.slots] at X182 l182 y182 z182 st182 hQ182
  subst y182 z182
  obtain ⟨rfl, Nq182, e182⟩ := hQ182
  have N182 : Fr n0 L182 := l182 ▸ Fr.app N180 Nq182
  clear l182
  obtain ⟨cl183, Ar183, q183, S183, M183, Hh183, G183⟩ := id V_ca_180
  obtain ⟨T183, h183, X183, e183, W183, st183⟩ := stC X182 hx hZ e182 Ar183 (j := (18 : Int32)) (inb_of S183 ⟨by decide, by decide⟩) (g := (mkF m 429 #[.val (.long p1), .second, .val (.int p2), .val (.ref pw), .val (.long (Int64.ofNat W)), .second, .val (.int (Int32.ofNat pp)), .val (.ref ca), .unset, .unset, .unset] [(.int (Int32.ofNat (own_ch W pp 18))), (.int (18 : Int32)), (.ref ca)])) rfl rfl (hb hby at_429)
  have V_ca_183 : Arv Z h183 ca k124 .char (19 : Int32) [(.int (nar .char (Int32.ofNat (own_ch W pp 0)))), (.int (nar .char (Int32.ofNat (own_ch W pp 1)))), (.int (nar .char (Int32.ofNat (own_ch W pp 2)))), (.int (nar .char (Int32.ofNat (own_ch W pp 3)))), (.int (nar .char (Int32.ofNat (own_ch W pp 4)))), (.int (nar .char (Int32.ofNat (own_ch W pp 5)))), (.int (nar .char (Int32.ofNat (own_ch W pp 6)))), (.int (nar .char (Int32.ofNat (own_ch W pp 7)))), (.int (nar .char (Int32.ofNat (own_ch W pp 8)))), (.int (nar .char (Int32.ofNat (own_ch W pp 9)))), (.int (nar .char (Int32.ofNat (own_ch W pp 10)))), (.int (nar .char (Int32.ofNat (own_ch W pp 11)))), (.int (nar .char (Int32.ofNat (own_ch W pp 12)))), (.int (nar .char (Int32.ofNat (own_ch W pp 13)))), (.int (nar .char (Int32.ofNat (own_ch W pp 14)))), (.int (nar .char (Int32.ofNat (own_ch W pp 15)))), (.int (nar .char (Int32.ofNat (own_ch W pp 16)))), (.int (nar .char (Int32.ofNat (own_ch W pp 17)))), (.int (nar .char (Int32.ofNat (own_ch W pp 18))))] (.int (0 : Int32)) := Arv.set Ar183 q183 S183 M183 Hh183 G183 (fits_nar_char _) W183 18 rfl (Nat.le_of_ble_eq_true rfl)
  have K183 : Keep h180 h183 [ca] := Keep.of_wr W183
  have N183 := Fr.snoc X183 N182 g_ca
  simp only [own_narch] at V_ca_183
  have VCA : Arv Z h183 ca k124 .char (19 : Int32) ((own_cs W pp).map Value.int) (.int (0 : Int32)) := V_ca_183
  obtain ⟨T184, h184, X184, e184, E184, A184, D184, -, st184⟩ := newO X183 hx hZ hown (hw _ (List.mem_of_getElem? (i := 29) rfl)) (hw _ (List.mem_of_getElem? (i := 30) rfl)) (hw _ (List.mem_of_getElem? (i := 31) rfl)) e183 (g := (mkF m 430 #[.val (.long p1), .second, .val (.int p2), .val (.ref pw), .val (.long (Int64.ofNat W)), .second, .val (.int (Int32.ofNat pp)), .val (.ref ca), .unset, .unset, .unset] [])) rfl (hb hby at_430) (by decide) (by decide)
  obtain ⟨fl, g184⟩ : ∃ z, z = h183.size := ⟨_, rfl⟩
  rw [← g184] at A184 D184 st184
  have Z_185 := (Nat.le_trans (Nat.le_trans (Nat.le_trans (Nat.le_trans (Nat.le_trans (Nat.le_trans (Nat.le_trans (Nat.le_trans (Nat.le_trans (Nat.le_trans (Nat.le_trans (Nat.le_trans (Nat.le_trans (Nat.le_trans (Nat.le_trans (Nat.le_trans (Nat.le_trans (Nat.le_trans (Nat.le_trans (Nat.le_trans Z_125 K124.1) K129.1) K132.1) K135.1) K138.1) K141.1) K144.1) K147.1) K150.1) K153.1) K156.1) K159.1) K162.1) K165.1) K168.1) K171.1) K174.1) K177.1) K180.1) K183.1)
  have g_fl : n0 ≤ fl := Nat.le_trans Z_185 (Nat.le_of_eq g184.symm)
  have lt_pw_186 := (Nat.lt_of_lt_of_le (Nat.lt_of_lt_of_le (Nat.lt_of_lt_of_le (Nat.lt_of_lt_of_le (Nat.lt_of_lt_of_le (Nat.lt_of_lt_of_le (Nat.lt_of_lt_of_le (Nat.lt_of_lt_of_le (Nat.lt_of_lt_of_le (Nat.lt_of_lt_of_le (Nat.lt_of_lt_of_le (Nat.lt_of_lt_of_le (Nat.lt_of_lt_of_le (Nat.lt_of_lt_of_le (Nat.lt_of_lt_of_le (Nat.lt_of_lt_of_le (Nat.lt_of_lt_of_le (Nat.lt_of_lt_of_le (Nat.lt_of_lt_of_le (Nat.lt_of_lt_of_le lt_pw_126 K124.1) K129.1) K132.1) K135.1) K138.1) K141.1) K144.1) K147.1) K150.1) K153.1) K156.1) K159.1) K162.1) K165.1) K168.1) K171.1) K174.1) K177.1) K180.1) K183.1)
  have ne_pw_fl : pw ≠ fl := (Nat.ne_of_lt (Nat.lt_of_lt_of_le lt_pw_186 (Nat.le_of_eq g184.symm)))
  have lt_ca_187 := (Nat.lt_of_lt_of_le (Nat.lt_of_lt_of_le (Nat.lt_of_lt_of_le (Nat.lt_of_lt_of_le (Nat.lt_of_lt_of_le (Nat.lt_of_lt_of_le (Nat.lt_of_lt_of_le (Nat.lt_of_lt_of_le (Nat.lt_of_lt_of_le (Nat.lt_of_lt_of_le (Nat.lt_of_lt_of_le (Nat.lt_of_lt_of_le (Nat.lt_of_lt_of_le (Nat.lt_of_lt_of_le (Nat.lt_of_lt_of_le (Nat.lt_of_lt_of_le (Nat.lt_of_lt_of_le (Nat.lt_of_lt_of_le (Nat.lt_of_lt_of_le lt_ca K129.1) K132.1) K135.1) K138.1) K141.1) K144.1) K147.1) K150.1) K153.1) K156.1) K159.1) K162.1) K165.1) K168.1) K171.1) K174.1) K177.1) K180.1) K183.1)
  have ne_ca_fl : ca ≠ fl := (Nat.ne_of_lt (Nat.lt_of_lt_of_le lt_ca_187 (Nat.le_of_eq g184.symm)))
  have F_line_fl : Fld Z h184 fl "com/example/allotrope/allotrope/workload/Fields" "line" "[C" .null := D184 (Or.inl (hw _ (List.mem_of_getElem? (i := 39) rfl))) (ty := (.array .char)) (by decide)
  have F_starts_fl : Fld Z h184 fl "com/example/allotrope/allotrope/workload/Fields" "starts" "[I" .null := D184 (Or.inl (hw _ (List.mem_of_getElem? (i := 42) rfl))) (ty := (.array .int)) (by decide)
  have F_ends_fl : Fld Z h184 fl "com/example/allotrope/allotrope/workload/Fields" "ends" "[I" .null := D184 (Or.inl (hw _ (List.mem_of_getElem? (i := 44) rfl))) (ty := (.array .int)) (by decide)
  have F_length_fl : Fld Z h184 fl "com/example/allotrope/allotrope/workload/Fields" "length" "I" (.int (0 : Int32)) := D184 (Or.inl (hw _ (List.mem_of_getElem? (i := 92) rfl))) (ty := .int) (by decide)
  have F_count_fl : Fld Z h184 fl "com/example/allotrope/allotrope/workload/Fields" "count" "I" (.int (0 : Int32)) := D184 (Or.inl (hw _ (List.mem_of_getElem? (i := 126) rfl))) (ty := .int) (by decide)
  have K184 : Keep h183 h184 [] := (Keep.refl _ []).ext E184
  have lt_fl : fl < h184.size := A184.lt
  have Z_188 := (Nat.le_trans Z_185 K184.1)
  obtain ⟨_, _, ⟨T189, L189, kk189, nn189⟩, -, X189, ⟨Lc189, hQ189, l189, y189, z189⟩, st189⟩ := X184.specialBack hx (y := (⟨"com/example/allotrope/allotrope/workload/Fields", "<init>", "()V"⟩ : MethodName)) rfl hown (mvT hZ (hw _ (List.mem_of_getElem? (i := 32) rfl))) (mvT hZ (hw _ (List.mem_of_getElem? (i := 33) rfl))) (mvT hZ (hw _ (List.mem_of_getElem? (i := 34) rfl))) (by decide) (backOf (W := 1) (rmI l Z a0 hw [] fl _ _ _ h184 n0 Z_188 g_fl A184 F_line_fl F_length_fl F_count_fl F_starts_fl F_ends_fl) hZ (hw _ (List.mem_of_getElem? (i := 34) rfl)) (hw _ (List.mem_of_getElem? (i := 31) rfl)) (by decide) (by decide)) (g := (mkF m 434 #[.val (.long p1), .second, .val (.int p2), .val (.ref pw), .val (.long (Int64.ofNat W)), .second, .val (.int (Int32.ofNat pp)), .val (.ref ca), .unset, .unset, .unset] [(.ref fl), (.ref fl)])) rfl (by rw [hml]; rfl) (Steps.refl _) (a := fl) (argsL := []) (rest := [(.ref fl)]) (lenOf pd___V rfl) rfl (by show 2 * 0 + _ ≤ _; exact Nat.le_of_eq rfl) (hb hby at_434) (fun _ _ => ⟨rfl, e184, Nat.le_of_ble_eq_true rfl, Nat.le_of_ble_eq_true rfl⟩)
  dsimp only [Pt.U, Pt.locs, Pt.cells, Pt.slots] at X189 l189 y189 z189 st189 hQ189
  subst y189 z189
  obtain ⟨ln, st, en, kl, ks, ke, rfl, Nq189, K189, FS189, DI, g_ln, g_st, g_en, le_ln, le_st, le_en⟩ := hQ189
  have N189 : Fr n0 L189 := l189 ▸ Fr.app N183 Nq189
  clear l189
  obtain ⟨E_fl1, -, -, -, -, -, Vl1, Vs1, Ve1⟩ := id FS189
  have lt_pw_190 := (Nat.lt_of_lt_of_le lt_pw_186 K184.1)
  have ne_pw_ln : pw ≠ ln := Nat.ne_of_lt (Nat.lt_of_lt_of_le lt_pw_190 le_ln)
  have lt_ca_191 := (Nat.lt_of_lt_of_le lt_ca_187 K184.1)
  have ne_ca_ln : ca ≠ ln := Nat.ne_of_lt (Nat.lt_of_lt_of_le lt_ca_191 le_ln)
  have ne_pw_st : pw ≠ st := Nat.ne_of_lt (Nat.lt_of_lt_of_le lt_pw_190 le_st)
  have ne_ca_st : ca ≠ st := Nat.ne_of_lt (Nat.lt_of_lt_of_le lt_ca_191 le_st)
  have ne_pw_en : pw ≠ en := Nat.ne_of_lt (Nat.lt_of_lt_of_le lt_pw_190 le_en)
  have ne_ca_en : ca ≠ en := Nat.ne_of_lt (Nat.lt_of_lt_of_le lt_ca_191 le_en)
  obtain ⟨d1, d2, d3, d4, d5, d6⟩ := id DI
  have lt_ln : ln < T189.heap.size := Vl1.lt
  have lt_st : st < T189.heap.size := Vs1.lt
  have lt_en : en < T189.heap.size := Ve1.lt
  obtain ⟨T192, h192, X192, e192, E192, A192, D192, -, st192⟩ := newO X189 hx hZ hown (hw _ (List.mem_of_getElem? (i := 45) rfl)) (hw _ (List.mem_of_getElem? (i := 46) rfl)) (hw _ (List.mem_of_getElem? (i := 47) rfl)) rfl (g := (mkF m 441 #[.val (.long p1), .second, .val (.int p2), .val (.ref pw), .val (.long (Int64.ofNat W)), .second, .val (.int (Int32.ofNat pp)), .val (.ref ca), .val (.ref fl), .unset, .unset] [(.ref fl)])) rfl (hb hby at_441) (by decide) (by decide)
  obtain ⟨s1, g192⟩ : ∃ z, z = T189.heap.size := ⟨_, rfl⟩
  rw [← g192] at A192 D192 st192
  have Z_193 := (Nat.le_trans Z_188 K189.1)
  have g_s1 : n0 ≤ s1 := Nat.le_trans Z_193 (Nat.le_of_eq g192.symm)
  have lt_pw_194 := (Nat.lt_of_lt_of_le lt_pw_190 K189.1)
  have ne_pw_s1 : pw ≠ s1 := (Nat.ne_of_lt (Nat.lt_of_lt_of_le lt_pw_194 (Nat.le_of_eq g192.symm)))
  have lt_ca_195 := (Nat.lt_of_lt_of_le lt_ca_191 K189.1)
  have ne_ca_s1 : ca ≠ s1 := (Nat.ne_of_lt (Nat.lt_of_lt_of_le lt_ca_195 (Nat.le_of_eq g192.symm)))
  have lt_fl_196 := (Nat.lt_of_lt_of_le lt_fl K189.1)
  have ne_fl_s1 : fl ≠ s1 := (Nat.ne_of_lt (Nat.lt_of_lt_of_le lt_fl_196 (Nat.le_of_eq g192.symm)))
  have ne_ln_s1 : ln ≠ s1 := (Nat.ne_of_lt (Nat.lt_of_lt_of_le lt_ln (Nat.le_of_eq g192.symm)))
  have ne_st_s1 : st ≠ s1 := (Nat.ne_of_lt (Nat.lt_of_lt_of_le lt_st (Nat.le_of_eq g192.symm)))
  have ne_en_s1 : en ≠ s1 := (Nat.ne_of_lt (Nat.lt_of_lt_of_le lt_en (Nat.le_of_eq g192.symm)))
  have F_coder_s1 : Fld Z h192 s1 "java/lang/String" "coder" "B" (.int (0 : Int32)) := D192 (Or.inr (hw _ (List.mem_of_getElem? (i := 69) rfl))) (ty := .byte) (by decide)
  have F_value_s1 : Fld Z h192 s1 "java/lang/String" "value" "[B" .null := D192 (Or.inr (hw _ (List.mem_of_getElem? (i := 71) rfl))) (ty := (.array .byte)) (by decide)
  have K192 : Keep T189.heap h192 [] := (Keep.refl _ []).ext E192
  have lt_s1 : s1 < h192.size := A192.lt
  have O_197 := (((((((((((((((((((((((((((((((((((((((((((X00.keep K101 all0).keep K102 (allS g_pw all0)).keep K103 (allS g_pw all0)).keep K104 (allS g_pw all0)).keep K105 (allS g_pw all0)).keep K106 (allS g_pw all0)).keep K107 (allS g_pw all0)).keep K108 (allS g_pw all0)).keep K109 (allS g_pw all0)).keep K110 (allS g_pw all0)).keep K111 (allS g_pw all0)).keep K112 (allS g_pw all0)).keep K113 (allS g_pw all0)).keep K114 (allS g_pw all0)).keep K115 (allS g_pw all0)).keep K116 (allS g_pw all0)).keep K117 (allS g_pw all0)).keep K118 (allS g_pw all0)).keep K119 (allS g_pw all0)).keep K120 (allS g_pw all0)).keep K124 all0).keep K129 (allS g_ca all0)).keep K132 (allS g_ca all0)).keep K135 (allS g_ca all0)).keep K138 (allS g_ca all0)).keep K141 (allS g_ca all0)).keep K144 (allS g_ca all0)).keep K147 (allS g_ca all0)).keep K150 (allS g_ca all0)).keep K153 (allS g_ca all0)).keep K156 (allS g_ca all0)).keep K159 (allS g_ca all0)).keep K162 (allS g_ca all0)).keep K165 (allS g_ca all0)).keep K168 (allS g_ca all0)).keep K171 (allS g_ca all0)).keep K174 (allS g_ca all0)).keep K177 (allS g_ca all0)).keep K180 (allS g_ca all0)).keep K183 (allS g_ca all0)).keep K184 all0).keep K189 (allS g_fl all0)).keep K192 all0)
  have Z_198 := (Nat.le_trans Z_193 K192.1)
  have V_ca_199 := (((VCA.keep K184 nin0).keep K189 (ninS ne_ca_fl nin0)).keep K192 nin0)
  obtain ⟨_, _, ⟨T200, L200, kk200, nn200⟩, -, X200, ⟨Lc200, hQ200, l200, y200, z200⟩, st200⟩ := X192.specialBack hx (y := (⟨"java/lang/String", "<init>", "([C)V"⟩ : MethodName)) rfl hown (mvT hZ (hw _ (List.mem_of_getElem? (i := 48) rfl))) (mvT hZ (hw _ (List.mem_of_getElem? (i := 49) rfl))) (mvT hZ (hw _ (List.mem_of_getElem? (i := 50) rfl))) (by decide) (StrChars.Road.backV (W := 2) hZ hws (kI := 4) (hw _ (List.mem_of_getElem? (i := 46) rfl)) (cs := own_cs W pp) (bs := (own_cs W pp).map (fun c => c.toInt8.toInt32)) (n := 19) g_s1 Z_198 A192 F_value_s1 F_coder_s1 V_ca_199 (O2.ext O_197.2) P5 (own_cs_len W pp) rfl (by decide) (by decide) own_cs_rng rfl (by decide) (by decide)) (g := (mkF m 447 #[.val (.long p1), .second, .val (.int p2), .val (.ref pw), .val (.long (Int64.ofNat W)), .second, .val (.int (Int32.ofNat pp)), .val (.ref ca), .val (.ref fl), .unset, .unset] [(.ref ca), (.ref s1), (.ref s1), (.ref fl)])) rfl (by rw [hml]; rfl) (Steps.refl _) (a := s1) (argsL := [(.ref ca)]) (rest := [(.ref s1), (.ref fl)]) (lenOf pd___C_V rfl) rfl (by show 2 * 0 + _ ≤ _; exact Nat.le_of_eq rfl) (hb hby at_447) (fun _ _ => ⟨rfl, e192, Nat.le_of_ble_eq_true rfl, Nat.le_of_ble_eq_true rfl⟩)
  dsimp only [Pt.U, Pt.locs, Pt.cells, Pt.slots] at X200 l200 y200 z200 st200 hQ200
  subst y200 z200
  obtain ⟨rfl, Nq200, K200, Eq200, Fc200, t200, kb200, g_t200, le200, nx200, Fv200, V_t200⟩ := hQ200
  have N200 : Fr n0 L200 := l200 ▸ Fr.app N189 Nq200
  clear l200
  have lt_fl_201 := (Nat.lt_of_lt_of_le lt_fl_196 K192.1)
  have ne_fl_t : fl ≠ t200 := Nat.ne_of_lt (Nat.lt_of_lt_of_le lt_fl_201 le200)
  have lt_ln_202 := (Nat.lt_of_lt_of_le lt_ln K192.1)
  have ne_ln_t : ln ≠ t200 := Nat.ne_of_lt (Nat.lt_of_lt_of_le lt_ln_202 le200)
  have lt_pw_203 := (Nat.lt_of_lt_of_le lt_pw_194 K192.1)
  have ne_pw_t : pw ≠ t200 := Nat.ne_of_lt (Nat.lt_of_lt_of_le lt_pw_203 le200)
  have FSc204 := own_FS_keep FS189 K192 nin0 nin0 nin0 nin0
  have FSc205 := own_FS_keep FSc204 K200 (ninS ne_fl_s1 nin0) (ninS ne_ln_s1 nin0) (ninS ne_st_s1 nin0) (ninS ne_en_s1 nin0)
  have O_206 := (O_197.keep K200 (allS g_s1 all0))
  have E_fl_207 := ((E_fl1.keep K192).keep K200)
  obtain ⟨cq208, kq208, q208a, q208b, q208c⟩ := isOf hZ rfl E_fl_207
  obtain ⟨_, _, ⟨T208, L208, kk208, nn208⟩, -, X208, ⟨Lc208, hQ208, l208, y208, z208⟩, st208⟩ := X200.virtualBack hx (y := (⟨"com/example/allotrope/allotrope/workload/Fields", "splitAt", "(Ljava/lang/String;C)V"⟩ : MethodName)) (z := (⟨"com/example/allotrope/allotrope/workload/Fields", "splitAt", "(Ljava/lang/String;C)V"⟩ : MethodName)) hown (mvT hZ (hw _ (List.mem_of_getElem? (i := 72) rfl))) (mvT hZ (hw _ (List.mem_of_getElem? (i := 73) rfl))) (notFace_of_selects (args := #[]) (mvT hZ (hw _ (List.mem_of_getElem? (i := 75) rfl)))) (mvT hZ (hw _ (List.mem_of_getElem? (i := 75) rfl))) (mvT hZ (hw _ (List.mem_of_getElem? (i := 74) rfl))) (by decide) (backOf (W := 0) (rmSP l Z a0 hw [] W pp fl ln st en kl ks ke s1 t200 kb200 G1 fm T200.heap n0 hpp FSc205 DI g_fl g_ln g_st g_en (Ne.symm ne_fl_s1) (Ne.symm ne_fl_t) (Ne.symm ne_ln_t) Eq200 Fv200 Fc200 V_t200 (O2.ext O_206.2) P5 (O4.ext O_206.2) rfm) hZ (hw _ (List.mem_of_getElem? (i := 76) rfl)) (hw _ (List.mem_of_getElem? (i := 31) rfl)) (by decide) (by decide)) q208a q208c (g := (mkF m 452 #[.val (.long p1), .second, .val (.int p2), .val (.ref pw), .val (.long (Int64.ofNat W)), .second, .val (.int (Int32.ofNat pp)), .val (.ref ca), .val (.ref fl), .unset, .unset] [(.int (44 : Int32)), (.ref s1), (.ref fl)])) rfl (by rw [hml]; rfl) (Steps.refl _) (argsL := [(.ref s1), (.int (44 : Int32))]) (rest := []) (lenOf pd__Ljava_lang_String_C_V rfl) rfl (by show 2 * 0 + _ ≤ _; exact Nat.le_of_eq rfl) (hb hby at_452) (fun _ _ => ⟨rfl, rfl, Nat.le_of_ble_eq_true rfl, Nat.le_of_ble_eq_true rfl⟩)
  dsimp only [Pt.U, Pt.locs, Pt.cells, Pt.slots] at X208 l208 y208 z208 st208 hQ208
  subst y208 z208
  obtain ⟨rfl, Nq208, K208, FS208⟩ := hQ208
  have N208 : Fr n0 L208 := l208 ▸ Fr.app N200 Nq208
  clear l208
  obtain ⟨E9, Fl9, Fn9, Fc9, Fs9, Fe9, Vl9, Vs9, Ve9⟩ := id FS208
  obtain ⟨cq209, kq209, q209a, q209b, q209c⟩ := isOf hZ rfl E9
  obtain ⟨_, _, ⟨T209, L209, kk209, nn209⟩, -, X209, ⟨Lc209, hQ209, l209, y209, z209⟩, st209⟩ := X208.virtualBack hx (y := (⟨"com/example/allotrope/allotrope/workload/Fields", "count", "()I"⟩ : MethodName)) (z := (⟨"com/example/allotrope/allotrope/workload/Fields", "count", "()I"⟩ : MethodName)) hown (mvT hZ (hw _ (List.mem_of_getElem? (i := 131) rfl))) (mvT hZ (hw _ (List.mem_of_getElem? (i := 132) rfl))) (notFace_of_selects (args := #[]) (mvT hZ (hw _ (List.mem_of_getElem? (i := 134) rfl)))) (mvT hZ (hw _ (List.mem_of_getElem? (i := 134) rfl))) (mvT hZ (hw _ (List.mem_of_getElem? (i := 133) rfl))) (by decide) (backOf (W := 0) (rmCN l Z a0 hw [] fl 2 T208.heap n0 Fc9) hZ (hw _ (List.mem_of_getElem? (i := 135) rfl)) (hw _ (List.mem_of_getElem? (i := 31) rfl)) (by decide) (by decide)) q209a q209c (g := (mkF m 457 #[.val (.long p1), .second, .val (.int p2), .val (.ref pw), .val (.long (Int64.ofNat W)), .second, .val (.int (Int32.ofNat pp)), .val (.ref ca), .val (.ref fl), .unset, .unset] [(.ref fl)])) rfl (by rw [hml]; rfl) (Steps.refl _) (argsL := []) (rest := []) (lenOf pd___I rfl) rfl (by show 2 * 0 + _ ≤ _; exact Nat.le_of_eq rfl) (hb hby at_457) (fun _ _ => ⟨rfl, rfl, Nat.le_of_ble_eq_true rfl, Nat.le_of_ble_eq_true rfl⟩)
  dsimp only [Pt.U, Pt.locs, Pt.cells, Pt.slots] at X209 l209 y209 z209 st209 hQ209
  subst y209 z209
  obtain ⟨rfl, Nq209, e209⟩ := hQ209
  have N209 : Fr n0 L209 := l209 ▸ Fr.app N208 Nq209
  clear l209
  have hj : (18 : Int32) - (Int32.ofNat pp) = Int32.ofNat (18 - pp) := own_sub32 (a := 18) hpp (by decide)
  have V_pw_210 := ((((((V_pw_181.keep K183 (ninS ne_pw_ca nin0)).keep K184 nin0).keep K189 (ninS ne_pw_fl nin0)).keep K192 nin0).keep K200 (ninS ne_pw_s1 nin0)).keep K208 (ninS ne_pw_fl (ninS ne_pw_ln (ninS ne_pw_st (ninS ne_pw_en nin0)))))
  obtain ⟨cl211, Ar211, q211, S211, M211, Hh211, G211⟩ := id V_pw_210
  have hin211 : ¬ (((18 : Int32) - (Int32.ofNat pp)) < 0 ∨ cl211.slots.size ≤ (((18 : Int32) - (Int32.ofNat pp))).toNatClampNeg) := inb_of S211 ⟨by rw [hj]; exact own_nn (by omega), by rw [hj]; exact own_lt32 (b := 19) (by omega) (by decide)⟩
  have hat211 : cl211.slots[(((18 : Int32) - (Int32.ofNat pp))).toNatClampNeg]? = some (.long (Int64.ofNat (10 ^ (18 - pp)))) := Has.at Hh211 hin211 (by rw [hj, own_clamp (by omega)]; exact own_pw_at (by omega))
  obtain ⟨cq212, kq212, q212a, q212b, q212c⟩ := isOf hZ e209 E9
  obtain ⟨_, _, ⟨T212, L212, kk212, nn212⟩, -, X212, ⟨Lc212, hQ212, l212, y212, z212⟩, st212⟩ := X209.virtualBack hx (y := (⟨"com/example/allotrope/allotrope/workload/Fields", "whole", "(I)J"⟩ : MethodName)) (z := (⟨"com/example/allotrope/allotrope/workload/Fields", "whole", "(I)J"⟩ : MethodName)) hown (mvT hZ (hw _ (List.mem_of_getElem? (i := 136) rfl))) (mvT hZ (hw _ (List.mem_of_getElem? (i := 137) rfl))) (notFace_of_selects (args := #[]) (mvT hZ (hw _ (List.mem_of_getElem? (i := 139) rfl)))) (mvT hZ (hw _ (List.mem_of_getElem? (i := 139) rfl))) (mvT hZ (hw _ (List.mem_of_getElem? (i := 138) rfl))) (by decide) (backOf (W := 0) (rmWH l Z a0 hw [] W pp pp 0 fl ln st en kl ks ke (0 : Int32) [.int (0 : Int32), .int (Int32.ofNat (pp + 1))] [.int (Int32.ofNat pp), .int (19 : Int32)] (fun i => W / 10 ^ (18 - i)) (own_dg W) T208.heap n0 Fl9 Fe9 Vl9 Ve9 ⟨by decide, by decide⟩ rfl (by omega) Fs9 Vs9 rfl (Nat.zero_le _) (own_f0 hW18) (own_h0 hpp hWn)) hZ (hw _ (List.mem_of_getElem? (i := 140) rfl)) (hw _ (List.mem_of_getElem? (i := 31) rfl)) (by decide) (by decide)) q212a q212c (g := (mkF m 478 #[.val (.long p1), .second, .val (.int p2), .val (.ref pw), .val (.long (Int64.ofNat W)), .second, .val (.int (Int32.ofNat pp)), .val (.ref ca), .val (.ref fl), .val (.long (Int64.ofNat (10 ^ (18 - pp)))), .second] [(.int (0 : Int32)), (.ref fl)])) rfl (by rw [hml]; rfl) (Steps.refl _) (argsL := [(.int (0 : Int32))]) (rest := []) (lenOf pd__I_J rfl) rfl (by show 2 * 0 + _ ≤ _; exact Nat.le_of_eq rfl) (hb hby at_478) (fun _ _ => ⟨rfl, e209, Nat.le_of_ble_eq_true rfl, Nat.le_of_ble_eq_true rfl⟩)
  dsimp only [Pt.U, Pt.locs, Pt.cells, Pt.slots] at X212 l212 y212 z212 st212 hQ212
  subst y212 z212
  obtain ⟨rfl, Nq212, e212⟩ := hQ212
  have N212 : Fr n0 L212 := l212 ▸ Fr.app N209 Nq212
  clear l212
  obtain ⟨cq213, kq213, q213a, q213b, q213c⟩ := isOf hZ e212 E9
  obtain ⟨_, _, ⟨T213, L213, kk213, nn213⟩, -, X213, ⟨Lc213, hQ213, l213, y213, z213⟩, st213⟩ := X212.virtualBack hx (y := (⟨"com/example/allotrope/allotrope/workload/Fields", "whole", "(I)J"⟩ : MethodName)) (z := (⟨"com/example/allotrope/allotrope/workload/Fields", "whole", "(I)J"⟩ : MethodName)) hown (mvT hZ (hw _ (List.mem_of_getElem? (i := 136) rfl))) (mvT hZ (hw _ (List.mem_of_getElem? (i := 137) rfl))) (notFace_of_selects (args := #[]) (mvT hZ (hw _ (List.mem_of_getElem? (i := 139) rfl)))) (mvT hZ (hw _ (List.mem_of_getElem? (i := 139) rfl))) (mvT hZ (hw _ (List.mem_of_getElem? (i := 138) rfl))) (by decide) (backOf (W := 0) (rmWH l Z a0 hw [] W pp 19 (pp + 1) fl ln st en kl ks ke (1 : Int32) [.int (0 : Int32), .int (Int32.ofNat (pp + 1))] [.int (Int32.ofNat pp), .int (19 : Int32)] (own_F1 W pp) (fun i => own_dg W (i - 1)) T208.heap n0 Fl9 Fe9 Vl9 Ve9 ⟨by decide, by decide⟩ rfl (by omega) Fs9 Vs9 rfl (by omega) (own_f1 W pp) (own_h1 hpp hWn)) hZ (hw _ (List.mem_of_getElem? (i := 140) rfl)) (hw _ (List.mem_of_getElem? (i := 31) rfl)) (by decide) (by decide)) q213a q213c (g := (mkF m 493 #[.val (.long p1), .second, .val (.int p2), .val (.ref pw), .val (.long (Int64.ofNat W)), .second, .val (.int (Int32.ofNat pp)), .val (.ref ca), .val (.ref fl), .val (.long (Int64.ofNat (10 ^ (18 - pp)))), .second] [(.int (1 : Int32)), (.ref fl)])) rfl (by rw [hml]; rfl) (Steps.refl _) (argsL := [(.int (1 : Int32))]) (rest := []) (lenOf pd__I_J rfl) rfl (by show 2 * 0 + _ ≤ _; exact Nat.le_of_eq rfl) (hb hby at_493) (fun _ _ => ⟨rfl, e212, Nat.le_of_ble_eq_true rfl, Nat.le_of_ble_eq_true rfl⟩)
  dsimp only [Pt.U, Pt.locs, Pt.cells, Pt.slots] at X213 l213 y213 z213 st213 hQ213
  subst y213 z213
  obtain ⟨rfl, Nq213, e213⟩ := hQ213
  have N213 : Fr n0 L213 := l213 ▸ Fr.app N212 Nq213
  clear l213
  obtain ⟨fs, hr, hrun, hended, hW, hsame⟩ := X213.leave (v := some (.int (1 : Int32))) (fun h => by rw [Bd.returns] at h; cases h)
  refine ⟨_, _, go123 _ ?_, hrun, hended, _, _, rfl, ?_, ⟨_, rfl⟩, hW, hsame.mono (by decide) (by decide)⟩
  · show Steps p.tables e below (T120.setTop (mkF m 149 #[.val (.long p1), .second, .val (.int p2), .val (.ref pw), .val (.long (Int64.ofNat W)), .second, .unset, .unset, .unset, .unset, .unset] [(.int (Int32.ofNat pp))])) _
    refine XS.istore X120.here hx rfl (hb hby at_149) rfl (l' := #[.val (.long p1), .second, .val (.int p2), .val (.ref pw), .val (.long (Int64.ofNat W)), .second, .val (.int (Int32.ofNat pp)), .unset, .unset, .unset, .unset]) rfl ?_
    show Steps p.tables e below (T120.setTop (mkF m 151 #[.val (.long p1), .second, .val (.int p2), .val (.ref pw), .val (.long (Int64.ofNat W)), .second, .val (.int (Int32.ofNat pp)), .unset, .unset, .unset, .unset] [])) _
    refine XS.bipush X120.here hx rfl (hb hby at_151) ?_
    show Steps p.tables e below (T120.setTop (mkF m 153 #[.val (.long p1), .second, .val (.int p2), .val (.ref pw), .val (.long (Int64.ofNat W)), .second, .val (.int (Int32.ofNat pp)), .unset, .unset, .unset, .unset] [(.int (19 : Int32))])) _
    refine st124 _ ?_
    show Steps p.tables e below (T124.setTop (mkF m 155 #[.val (.long p1), .second, .val (.int p2), .val (.ref pw), .val (.long (Int64.ofNat W)), .second, .val (.int (Int32.ofNat pp)), .unset, .unset, .unset, .unset] [(.ref ca)])) _
    refine XS.astore X124.here hx rfl (hb hby at_155) rfl rfl (l' := #[.val (.long p1), .second, .val (.int p2), .val (.ref pw), .val (.long (Int64.ofNat W)), .second, .val (.int (Int32.ofNat pp)), .val (.ref ca), .unset, .unset, .unset]) rfl ?_
    show Steps p.tables e below (T124.setTop (mkF m 157 #[.val (.long p1), .second, .val (.int p2), .val (.ref pw), .val (.long (Int64.ofNat W)), .second, .val (.int (Int32.ofNat pp)), .val (.ref ca), .unset, .unset, .unset] [])) _
    refine XS.aload X124.here hx rfl (hb hby at_157) rfl rfl ?_
    show Steps p.tables e below (T124.setTop (mkF m 159 #[.val (.long p1), .second, .val (.int p2), .val (.ref pw), .val (.long (Int64.ofNat W)), .second, .val (.int (Int32.ofNat pp)), .val (.ref ca), .unset, .unset, .unset] [(.ref ca)])) _
    refine XS.iconst X124.here hx rfl (hb hby at_159) ?_
    show Steps p.tables e below (T124.setTop (mkF m 160 #[.val (.long p1), .second, .val (.int p2), .val (.ref pw), .val (.long (Int64.ofNat W)), .second, .val (.int (Int32.ofNat pp)), .val (.ref ca), .unset, .unset, .unset] [(.int (0 : Int32)), (.ref ca)])) _
    refine XS.lload X124.here hx rfl (hb hby at_160) rfl ?_
    show Steps p.tables e below (T124.setTop (mkF m 162 #[.val (.long p1), .second, .val (.int p2), .val (.ref pw), .val (.long (Int64.ofNat W)), .second, .val (.int (Int32.ofNat pp)), .val (.ref ca), .unset, .unset, .unset] [(.long (Int64.ofNat W)), (.int (0 : Int32)), (.ref ca)])) _
    refine XS.iload X124.here hx rfl (hb hby at_162) rfl ?_
    show Steps p.tables e below (T124.setTop (mkF m 164 #[.val (.long p1), .second, .val (.int p2), .val (.ref pw), .val (.long (Int64.ofNat W)), .second, .val (.int (Int32.ofNat pp)), .val (.ref ca), .unset, .unset, .unset] [(.int (Int32.ofNat pp)), (.long (Int64.ofNat W)), (.int (0 : Int32)), (.ref ca)])) _
    refine XS.iconst X124.here hx rfl (hb hby at_164) ?_
    show Steps p.tables e below (T124.setTop (mkF m 165 #[.val (.long p1), .second, .val (.int p2), .val (.ref pw), .val (.long (Int64.ofNat W)), .second, .val (.int (Int32.ofNat pp)), .val (.ref ca), .unset, .unset, .unset] [(.int (0 : Int32)), (.int (Int32.ofNat pp)), (.long (Int64.ofNat W)), (.int (0 : Int32)), (.ref ca)])) _
    refine XS.aloadN X124.here hx rfl (hb hby at_165) rfl rfl ?_
    show Steps p.tables e below (T124.setTop (mkF m 166 #[.val (.long p1), .second, .val (.int p2), .val (.ref pw), .val (.long (Int64.ofNat W)), .second, .val (.int (Int32.ofNat pp)), .val (.ref ca), .unset, .unset, .unset] [(.ref pw), (.int (0 : Int32)), (.int (Int32.ofNat pp)), (.long (Int64.ofNat W)), (.int (0 : Int32)), (.ref ca)])) _
    refine st128 _ ?_
    show Steps p.tables e below (T128.setTop (mkF m 169 #[.val (.long p1), .second, .val (.int p2), .val (.ref pw), .val (.long (Int64.ofNat W)), .second, .val (.int (Int32.ofNat pp)), .val (.ref ca), .unset, .unset, .unset] [(.int (Int32.ofNat (own_ch W pp 0))), (.int (0 : Int32)), (.ref ca)])) _
    refine st129 _ ?_
    show Steps p.tables e below (T129.setTop (mkF m 170 #[.val (.long p1), .second, .val (.int p2), .val (.ref pw), .val (.long (Int64.ofNat W)), .second, .val (.int (Int32.ofNat pp)), .val (.ref ca), .unset, .unset, .unset] [])) _
    refine XS.aload X129.here hx rfl (hb hby at_170) rfl rfl ?_
    show Steps p.tables e below (T129.setTop (mkF m 172 #[.val (.long p1), .second, .val (.int p2), .val (.ref pw), .val (.long (Int64.ofNat W)), .second, .val (.int (Int32.ofNat pp)), .val (.ref ca), .unset, .unset, .unset] [(.ref ca)])) _
    refine XS.iconst X129.here hx rfl (hb hby at_172) ?_
    show Steps p.tables e below (T129.setTop (mkF m 173 #[.val (.long p1), .second, .val (.int p2), .val (.ref pw), .val (.long (Int64.ofNat W)), .second, .val (.int (Int32.ofNat pp)), .val (.ref ca), .unset, .unset, .unset] [(.int (1 : Int32)), (.ref ca)])) _
    refine XS.lload X129.here hx rfl (hb hby at_173) rfl ?_
    show Steps p.tables e below (T129.setTop (mkF m 175 #[.val (.long p1), .second, .val (.int p2), .val (.ref pw), .val (.long (Int64.ofNat W)), .second, .val (.int (Int32.ofNat pp)), .val (.ref ca), .unset, .unset, .unset] [(.long (Int64.ofNat W)), (.int (1 : Int32)), (.ref ca)])) _
    refine XS.iload X129.here hx rfl (hb hby at_175) rfl ?_
    show Steps p.tables e below (T129.setTop (mkF m 177 #[.val (.long p1), .second, .val (.int p2), .val (.ref pw), .val (.long (Int64.ofNat W)), .second, .val (.int (Int32.ofNat pp)), .val (.ref ca), .unset, .unset, .unset] [(.int (Int32.ofNat pp)), (.long (Int64.ofNat W)), (.int (1 : Int32)), (.ref ca)])) _
    refine XS.iconst X129.here hx rfl (hb hby at_177) ?_
    show Steps p.tables e below (T129.setTop (mkF m 178 #[.val (.long p1), .second, .val (.int p2), .val (.ref pw), .val (.long (Int64.ofNat W)), .second, .val (.int (Int32.ofNat pp)), .val (.ref ca), .unset, .unset, .unset] [(.int (1 : Int32)), (.int (Int32.ofNat pp)), (.long (Int64.ofNat W)), (.int (1 : Int32)), (.ref ca)])) _
    refine XS.aloadN X129.here hx rfl (hb hby at_178) rfl rfl ?_
    show Steps p.tables e below (T129.setTop (mkF m 179 #[.val (.long p1), .second, .val (.int p2), .val (.ref pw), .val (.long (Int64.ofNat W)), .second, .val (.int (Int32.ofNat pp)), .val (.ref ca), .unset, .unset, .unset] [(.ref pw), (.int (1 : Int32)), (.int (Int32.ofNat pp)), (.long (Int64.ofNat W)), (.int (1 : Int32)), (.ref ca)])) _
    refine st131 _ ?_
    show Steps p.tables e below (T131.setTop (mkF m 182 #[.val (.long p1), .second, .val (.int p2), .val (.ref pw), .val (.long (Int64.ofNat W)), .second, .val (.int (Int32.ofNat pp)), .val (.ref ca), .unset, .unset, .unset] [(.int (Int32.ofNat (own_ch W pp 1))), (.int (1 : Int32)), (.ref ca)])) _
    refine st132 _ ?_
    show Steps p.tables e below (T132.setTop (mkF m 183 #[.val (.long p1), .second, .val (.int p2), .val (.ref pw), .val (.long (Int64.ofNat W)), .second, .val (.int (Int32.ofNat pp)), .val (.ref ca), .unset, .unset, .unset] [])) _
    refine XS.aload X132.here hx rfl (hb hby at_183) rfl rfl ?_
    show Steps p.tables e below (T132.setTop (mkF m 185 #[.val (.long p1), .second, .val (.int p2), .val (.ref pw), .val (.long (Int64.ofNat W)), .second, .val (.int (Int32.ofNat pp)), .val (.ref ca), .unset, .unset, .unset] [(.ref ca)])) _
    refine XS.iconst X132.here hx rfl (hb hby at_185) ?_
    show Steps p.tables e below (T132.setTop (mkF m 186 #[.val (.long p1), .second, .val (.int p2), .val (.ref pw), .val (.long (Int64.ofNat W)), .second, .val (.int (Int32.ofNat pp)), .val (.ref ca), .unset, .unset, .unset] [(.int (2 : Int32)), (.ref ca)])) _
    refine XS.lload X132.here hx rfl (hb hby at_186) rfl ?_
    show Steps p.tables e below (T132.setTop (mkF m 188 #[.val (.long p1), .second, .val (.int p2), .val (.ref pw), .val (.long (Int64.ofNat W)), .second, .val (.int (Int32.ofNat pp)), .val (.ref ca), .unset, .unset, .unset] [(.long (Int64.ofNat W)), (.int (2 : Int32)), (.ref ca)])) _
    refine XS.iload X132.here hx rfl (hb hby at_188) rfl ?_
    show Steps p.tables e below (T132.setTop (mkF m 190 #[.val (.long p1), .second, .val (.int p2), .val (.ref pw), .val (.long (Int64.ofNat W)), .second, .val (.int (Int32.ofNat pp)), .val (.ref ca), .unset, .unset, .unset] [(.int (Int32.ofNat pp)), (.long (Int64.ofNat W)), (.int (2 : Int32)), (.ref ca)])) _
    refine XS.iconst X132.here hx rfl (hb hby at_190) ?_
    show Steps p.tables e below (T132.setTop (mkF m 191 #[.val (.long p1), .second, .val (.int p2), .val (.ref pw), .val (.long (Int64.ofNat W)), .second, .val (.int (Int32.ofNat pp)), .val (.ref ca), .unset, .unset, .unset] [(.int (2 : Int32)), (.int (Int32.ofNat pp)), (.long (Int64.ofNat W)), (.int (2 : Int32)), (.ref ca)])) _
    refine XS.aloadN X132.here hx rfl (hb hby at_191) rfl rfl ?_
    show Steps p.tables e below (T132.setTop (mkF m 192 #[.val (.long p1), .second, .val (.int p2), .val (.ref pw), .val (.long (Int64.ofNat W)), .second, .val (.int (Int32.ofNat pp)), .val (.ref ca), .unset, .unset, .unset] [(.ref pw), (.int (2 : Int32)), (.int (Int32.ofNat pp)), (.long (Int64.ofNat W)), (.int (2 : Int32)), (.ref ca)])) _
    refine st134 _ ?_
    show Steps p.tables e below (T134.setTop (mkF m 195 #[.val (.long p1), .second, .val (.int p2), .val (.ref pw), .val (.long (Int64.ofNat W)), .second, .val (.int (Int32.ofNat pp)), .val (.ref ca), .unset, .unset, .unset] [(.int (Int32.ofNat (own_ch W pp 2))), (.int (2 : Int32)), (.ref ca)])) _
    refine st135 _ ?_
    show Steps p.tables e below (T135.setTop (mkF m 196 #[.val (.long p1), .second, .val (.int p2), .val (.ref pw), .val (.long (Int64.ofNat W)), .second, .val (.int (Int32.ofNat pp)), .val (.ref ca), .unset, .unset, .unset] [])) _
    refine XS.aload X135.here hx rfl (hb hby at_196) rfl rfl ?_
    show Steps p.tables e below (T135.setTop (mkF m 198 #[.val (.long p1), .second, .val (.int p2), .val (.ref pw), .val (.long (Int64.ofNat W)), .second, .val (.int (Int32.ofNat pp)), .val (.ref ca), .unset, .unset, .unset] [(.ref ca)])) _
    refine XS.iconst X135.here hx rfl (hb hby at_198) ?_
    show Steps p.tables e below (T135.setTop (mkF m 199 #[.val (.long p1), .second, .val (.int p2), .val (.ref pw), .val (.long (Int64.ofNat W)), .second, .val (.int (Int32.ofNat pp)), .val (.ref ca), .unset, .unset, .unset] [(.int (3 : Int32)), (.ref ca)])) _
    refine XS.lload X135.here hx rfl (hb hby at_199) rfl ?_
    show Steps p.tables e below (T135.setTop (mkF m 201 #[.val (.long p1), .second, .val (.int p2), .val (.ref pw), .val (.long (Int64.ofNat W)), .second, .val (.int (Int32.ofNat pp)), .val (.ref ca), .unset, .unset, .unset] [(.long (Int64.ofNat W)), (.int (3 : Int32)), (.ref ca)])) _
    refine XS.iload X135.here hx rfl (hb hby at_201) rfl ?_
    show Steps p.tables e below (T135.setTop (mkF m 203 #[.val (.long p1), .second, .val (.int p2), .val (.ref pw), .val (.long (Int64.ofNat W)), .second, .val (.int (Int32.ofNat pp)), .val (.ref ca), .unset, .unset, .unset] [(.int (Int32.ofNat pp)), (.long (Int64.ofNat W)), (.int (3 : Int32)), (.ref ca)])) _
    refine XS.iconst X135.here hx rfl (hb hby at_203) ?_
    show Steps p.tables e below (T135.setTop (mkF m 204 #[.val (.long p1), .second, .val (.int p2), .val (.ref pw), .val (.long (Int64.ofNat W)), .second, .val (.int (Int32.ofNat pp)), .val (.ref ca), .unset, .unset, .unset] [(.int (3 : Int32)), (.int (Int32.ofNat pp)), (.long (Int64.ofNat W)), (.int (3 : Int32)), (.ref ca)])) _
    refine XS.aloadN X135.here hx rfl (hb hby at_204) rfl rfl ?_
    show Steps p.tables e below (T135.setTop (mkF m 205 #[.val (.long p1), .second, .val (.int p2), .val (.ref pw), .val (.long (Int64.ofNat W)), .second, .val (.int (Int32.ofNat pp)), .val (.ref ca), .unset, .unset, .unset] [(.ref pw), (.int (3 : Int32)), (.int (Int32.ofNat pp)), (.long (Int64.ofNat W)), (.int (3 : Int32)), (.ref ca)])) _
    refine st137 _ ?_
    show Steps p.tables e below (T137.setTop (mkF m 208 #[.val (.long p1), .second, .val (.int p2), .val (.ref pw), .val (.long (Int64.ofNat W)), .second, .val (.int (Int32.ofNat pp)), .val (.ref ca), .unset, .unset, .unset] [(.int (Int32.ofNat (own_ch W pp 3))), (.int (3 : Int32)), (.ref ca)])) _
    refine st138 _ ?_
    show Steps p.tables e below (T138.setTop (mkF m 209 #[.val (.long p1), .second, .val (.int p2), .val (.ref pw), .val (.long (Int64.ofNat W)), .second, .val (.int (Int32.ofNat pp)), .val (.ref ca), .unset, .unset, .unset] [])) _
    refine XS.aload X138.here hx rfl (hb hby at_209) rfl rfl ?_
    show Steps p.tables e below (T138.setTop (mkF m 211 #[.val (.long p1), .second, .val (.int p2), .val (.ref pw), .val (.long (Int64.ofNat W)), .second, .val (.int (Int32.ofNat pp)), .val (.ref ca), .unset, .unset, .unset] [(.ref ca)])) _
    refine XS.iconst X138.here hx rfl (hb hby at_211) ?_
    show Steps p.tables e below (T138.setTop (mkF m 212 #[.val (.long p1), .second, .val (.int p2), .val (.ref pw), .val (.long (Int64.ofNat W)), .second, .val (.int (Int32.ofNat pp)), .val (.ref ca), .unset, .unset, .unset] [(.int (4 : Int32)), (.ref ca)])) _
    refine XS.lload X138.here hx rfl (hb hby at_212) rfl ?_
    show Steps p.tables e below (T138.setTop (mkF m 214 #[.val (.long p1), .second, .val (.int p2), .val (.ref pw), .val (.long (Int64.ofNat W)), .second, .val (.int (Int32.ofNat pp)), .val (.ref ca), .unset, .unset, .unset] [(.long (Int64.ofNat W)), (.int (4 : Int32)), (.ref ca)])) _
    refine XS.iload X138.here hx rfl (hb hby at_214) rfl ?_
    show Steps p.tables e below (T138.setTop (mkF m 216 #[.val (.long p1), .second, .val (.int p2), .val (.ref pw), .val (.long (Int64.ofNat W)), .second, .val (.int (Int32.ofNat pp)), .val (.ref ca), .unset, .unset, .unset] [(.int (Int32.ofNat pp)), (.long (Int64.ofNat W)), (.int (4 : Int32)), (.ref ca)])) _
    refine XS.iconst X138.here hx rfl (hb hby at_216) ?_
    show Steps p.tables e below (T138.setTop (mkF m 217 #[.val (.long p1), .second, .val (.int p2), .val (.ref pw), .val (.long (Int64.ofNat W)), .second, .val (.int (Int32.ofNat pp)), .val (.ref ca), .unset, .unset, .unset] [(.int (4 : Int32)), (.int (Int32.ofNat pp)), (.long (Int64.ofNat W)), (.int (4 : Int32)), (.ref ca)])) _
    refine XS.aloadN X138.here hx rfl (hb hby at_217) rfl rfl ?_
    show Steps p.tables e below (T138.setTop (mkF m 218 #[.val (.long p1), .second, .val (.int p2), .val (.ref pw), .val (.long (Int64.ofNat W)), .second, .val (.int (Int32.ofNat pp)), .val (.ref ca), .unset, .unset, .unset] [(.ref pw), (.int (4 : Int32)), (.int (Int32.ofNat pp)), (.long (Int64.ofNat W)), (.int (4 : Int32)), (.ref ca)])) _
    refine st140 _ ?_
    show Steps p.tables e below (T140.setTop (mkF m 221 #[.val (.long p1), .second, .val (.int p2), .val (.ref pw), .val (.long (Int64.ofNat W)), .second, .val (.int (Int32.ofNat pp)), .val (.ref ca), .unset, .unset, .unset] [(.int (Int32.ofNat (own_ch W pp 4))), (.int (4 : Int32)), (.ref ca)])) _
    refine st141 _ ?_
    show Steps p.tables e below (T141.setTop (mkF m 222 #[.val (.long p1), .second, .val (.int p2), .val (.ref pw), .val (.long (Int64.ofNat W)), .second, .val (.int (Int32.ofNat pp)), .val (.ref ca), .unset, .unset, .unset] [])) _
    refine XS.aload X141.here hx rfl (hb hby at_222) rfl rfl ?_
    show Steps p.tables e below (T141.setTop (mkF m 224 #[.val (.long p1), .second, .val (.int p2), .val (.ref pw), .val (.long (Int64.ofNat W)), .second, .val (.int (Int32.ofNat pp)), .val (.ref ca), .unset, .unset, .unset] [(.ref ca)])) _
    refine XS.iconst X141.here hx rfl (hb hby at_224) ?_
    show Steps p.tables e below (T141.setTop (mkF m 225 #[.val (.long p1), .second, .val (.int p2), .val (.ref pw), .val (.long (Int64.ofNat W)), .second, .val (.int (Int32.ofNat pp)), .val (.ref ca), .unset, .unset, .unset] [(.int (5 : Int32)), (.ref ca)])) _
    refine XS.lload X141.here hx rfl (hb hby at_225) rfl ?_
    show Steps p.tables e below (T141.setTop (mkF m 227 #[.val (.long p1), .second, .val (.int p2), .val (.ref pw), .val (.long (Int64.ofNat W)), .second, .val (.int (Int32.ofNat pp)), .val (.ref ca), .unset, .unset, .unset] [(.long (Int64.ofNat W)), (.int (5 : Int32)), (.ref ca)])) _
    refine XS.iload X141.here hx rfl (hb hby at_227) rfl ?_
    show Steps p.tables e below (T141.setTop (mkF m 229 #[.val (.long p1), .second, .val (.int p2), .val (.ref pw), .val (.long (Int64.ofNat W)), .second, .val (.int (Int32.ofNat pp)), .val (.ref ca), .unset, .unset, .unset] [(.int (Int32.ofNat pp)), (.long (Int64.ofNat W)), (.int (5 : Int32)), (.ref ca)])) _
    refine XS.iconst X141.here hx rfl (hb hby at_229) ?_
    show Steps p.tables e below (T141.setTop (mkF m 230 #[.val (.long p1), .second, .val (.int p2), .val (.ref pw), .val (.long (Int64.ofNat W)), .second, .val (.int (Int32.ofNat pp)), .val (.ref ca), .unset, .unset, .unset] [(.int (5 : Int32)), (.int (Int32.ofNat pp)), (.long (Int64.ofNat W)), (.int (5 : Int32)), (.ref ca)])) _
    refine XS.aloadN X141.here hx rfl (hb hby at_230) rfl rfl ?_
    show Steps p.tables e below (T141.setTop (mkF m 231 #[.val (.long p1), .second, .val (.int p2), .val (.ref pw), .val (.long (Int64.ofNat W)), .second, .val (.int (Int32.ofNat pp)), .val (.ref ca), .unset, .unset, .unset] [(.ref pw), (.int (5 : Int32)), (.int (Int32.ofNat pp)), (.long (Int64.ofNat W)), (.int (5 : Int32)), (.ref ca)])) _
    refine st143 _ ?_
    show Steps p.tables e below (T143.setTop (mkF m 234 #[.val (.long p1), .second, .val (.int p2), .val (.ref pw), .val (.long (Int64.ofNat W)), .second, .val (.int (Int32.ofNat pp)), .val (.ref ca), .unset, .unset, .unset] [(.int (Int32.ofNat (own_ch W pp 5))), (.int (5 : Int32)), (.ref ca)])) _
    refine st144 _ ?_
    show Steps p.tables e below (T144.setTop (mkF m 235 #[.val (.long p1), .second, .val (.int p2), .val (.ref pw), .val (.long (Int64.ofNat W)), .second, .val (.int (Int32.ofNat pp)), .val (.ref ca), .unset, .unset, .unset] [])) _
    refine XS.aload X144.here hx rfl (hb hby at_235) rfl rfl ?_
    show Steps p.tables e below (T144.setTop (mkF m 237 #[.val (.long p1), .second, .val (.int p2), .val (.ref pw), .val (.long (Int64.ofNat W)), .second, .val (.int (Int32.ofNat pp)), .val (.ref ca), .unset, .unset, .unset] [(.ref ca)])) _
    refine XS.bipush X144.here hx rfl (hb hby at_237) ?_
    show Steps p.tables e below (T144.setTop (mkF m 239 #[.val (.long p1), .second, .val (.int p2), .val (.ref pw), .val (.long (Int64.ofNat W)), .second, .val (.int (Int32.ofNat pp)), .val (.ref ca), .unset, .unset, .unset] [(.int (6 : Int32)), (.ref ca)])) _
    refine XS.lload X144.here hx rfl (hb hby at_239) rfl ?_
    show Steps p.tables e below (T144.setTop (mkF m 241 #[.val (.long p1), .second, .val (.int p2), .val (.ref pw), .val (.long (Int64.ofNat W)), .second, .val (.int (Int32.ofNat pp)), .val (.ref ca), .unset, .unset, .unset] [(.long (Int64.ofNat W)), (.int (6 : Int32)), (.ref ca)])) _
    refine XS.iload X144.here hx rfl (hb hby at_241) rfl ?_
    show Steps p.tables e below (T144.setTop (mkF m 243 #[.val (.long p1), .second, .val (.int p2), .val (.ref pw), .val (.long (Int64.ofNat W)), .second, .val (.int (Int32.ofNat pp)), .val (.ref ca), .unset, .unset, .unset] [(.int (Int32.ofNat pp)), (.long (Int64.ofNat W)), (.int (6 : Int32)), (.ref ca)])) _
    refine XS.bipush X144.here hx rfl (hb hby at_243) ?_
    show Steps p.tables e below (T144.setTop (mkF m 245 #[.val (.long p1), .second, .val (.int p2), .val (.ref pw), .val (.long (Int64.ofNat W)), .second, .val (.int (Int32.ofNat pp)), .val (.ref ca), .unset, .unset, .unset] [(.int (6 : Int32)), (.int (Int32.ofNat pp)), (.long (Int64.ofNat W)), (.int (6 : Int32)), (.ref ca)])) _
    refine XS.aloadN X144.here hx rfl (hb hby at_245) rfl rfl ?_
    show Steps p.tables e below (T144.setTop (mkF m 246 #[.val (.long p1), .second, .val (.int p2), .val (.ref pw), .val (.long (Int64.ofNat W)), .second, .val (.int (Int32.ofNat pp)), .val (.ref ca), .unset, .unset, .unset] [(.ref pw), (.int (6 : Int32)), (.int (Int32.ofNat pp)), (.long (Int64.ofNat W)), (.int (6 : Int32)), (.ref ca)])) _
    refine st146 _ ?_
    show Steps p.tables e below (T146.setTop (mkF m 249 #[.val (.long p1), .second, .val (.int p2), .val (.ref pw), .val (.long (Int64.ofNat W)), .second, .val (.int (Int32.ofNat pp)), .val (.ref ca), .unset, .unset, .unset] [(.int (Int32.ofNat (own_ch W pp 6))), (.int (6 : Int32)), (.ref ca)])) _
    refine st147 _ ?_
    show Steps p.tables e below (T147.setTop (mkF m 250 #[.val (.long p1), .second, .val (.int p2), .val (.ref pw), .val (.long (Int64.ofNat W)), .second, .val (.int (Int32.ofNat pp)), .val (.ref ca), .unset, .unset, .unset] [])) _
    refine XS.aload X147.here hx rfl (hb hby at_250) rfl rfl ?_
    show Steps p.tables e below (T147.setTop (mkF m 252 #[.val (.long p1), .second, .val (.int p2), .val (.ref pw), .val (.long (Int64.ofNat W)), .second, .val (.int (Int32.ofNat pp)), .val (.ref ca), .unset, .unset, .unset] [(.ref ca)])) _
    refine XS.bipush X147.here hx rfl (hb hby at_252) ?_
    show Steps p.tables e below (T147.setTop (mkF m 254 #[.val (.long p1), .second, .val (.int p2), .val (.ref pw), .val (.long (Int64.ofNat W)), .second, .val (.int (Int32.ofNat pp)), .val (.ref ca), .unset, .unset, .unset] [(.int (7 : Int32)), (.ref ca)])) _
    refine XS.lload X147.here hx rfl (hb hby at_254) rfl ?_
    show Steps p.tables e below (T147.setTop (mkF m 256 #[.val (.long p1), .second, .val (.int p2), .val (.ref pw), .val (.long (Int64.ofNat W)), .second, .val (.int (Int32.ofNat pp)), .val (.ref ca), .unset, .unset, .unset] [(.long (Int64.ofNat W)), (.int (7 : Int32)), (.ref ca)])) _
    refine XS.iload X147.here hx rfl (hb hby at_256) rfl ?_
    show Steps p.tables e below (T147.setTop (mkF m 258 #[.val (.long p1), .second, .val (.int p2), .val (.ref pw), .val (.long (Int64.ofNat W)), .second, .val (.int (Int32.ofNat pp)), .val (.ref ca), .unset, .unset, .unset] [(.int (Int32.ofNat pp)), (.long (Int64.ofNat W)), (.int (7 : Int32)), (.ref ca)])) _
    refine XS.bipush X147.here hx rfl (hb hby at_258) ?_
    show Steps p.tables e below (T147.setTop (mkF m 260 #[.val (.long p1), .second, .val (.int p2), .val (.ref pw), .val (.long (Int64.ofNat W)), .second, .val (.int (Int32.ofNat pp)), .val (.ref ca), .unset, .unset, .unset] [(.int (7 : Int32)), (.int (Int32.ofNat pp)), (.long (Int64.ofNat W)), (.int (7 : Int32)), (.ref ca)])) _
    refine XS.aloadN X147.here hx rfl (hb hby at_260) rfl rfl ?_
    show Steps p.tables e below (T147.setTop (mkF m 261 #[.val (.long p1), .second, .val (.int p2), .val (.ref pw), .val (.long (Int64.ofNat W)), .second, .val (.int (Int32.ofNat pp)), .val (.ref ca), .unset, .unset, .unset] [(.ref pw), (.int (7 : Int32)), (.int (Int32.ofNat pp)), (.long (Int64.ofNat W)), (.int (7 : Int32)), (.ref ca)])) _
    refine st149 _ ?_
    show Steps p.tables e below (T149.setTop (mkF m 264 #[.val (.long p1), .second, .val (.int p2), .val (.ref pw), .val (.long (Int64.ofNat W)), .second, .val (.int (Int32.ofNat pp)), .val (.ref ca), .unset, .unset, .unset] [(.int (Int32.ofNat (own_ch W pp 7))), (.int (7 : Int32)), (.ref ca)])) _
    refine st150 _ ?_
    show Steps p.tables e below (T150.setTop (mkF m 265 #[.val (.long p1), .second, .val (.int p2), .val (.ref pw), .val (.long (Int64.ofNat W)), .second, .val (.int (Int32.ofNat pp)), .val (.ref ca), .unset, .unset, .unset] [])) _
    refine XS.aload X150.here hx rfl (hb hby at_265) rfl rfl ?_
    show Steps p.tables e below (T150.setTop (mkF m 267 #[.val (.long p1), .second, .val (.int p2), .val (.ref pw), .val (.long (Int64.ofNat W)), .second, .val (.int (Int32.ofNat pp)), .val (.ref ca), .unset, .unset, .unset] [(.ref ca)])) _
    refine XS.bipush X150.here hx rfl (hb hby at_267) ?_
    show Steps p.tables e below (T150.setTop (mkF m 269 #[.val (.long p1), .second, .val (.int p2), .val (.ref pw), .val (.long (Int64.ofNat W)), .second, .val (.int (Int32.ofNat pp)), .val (.ref ca), .unset, .unset, .unset] [(.int (8 : Int32)), (.ref ca)])) _
    refine XS.lload X150.here hx rfl (hb hby at_269) rfl ?_
    show Steps p.tables e below (T150.setTop (mkF m 271 #[.val (.long p1), .second, .val (.int p2), .val (.ref pw), .val (.long (Int64.ofNat W)), .second, .val (.int (Int32.ofNat pp)), .val (.ref ca), .unset, .unset, .unset] [(.long (Int64.ofNat W)), (.int (8 : Int32)), (.ref ca)])) _
    refine XS.iload X150.here hx rfl (hb hby at_271) rfl ?_
    show Steps p.tables e below (T150.setTop (mkF m 273 #[.val (.long p1), .second, .val (.int p2), .val (.ref pw), .val (.long (Int64.ofNat W)), .second, .val (.int (Int32.ofNat pp)), .val (.ref ca), .unset, .unset, .unset] [(.int (Int32.ofNat pp)), (.long (Int64.ofNat W)), (.int (8 : Int32)), (.ref ca)])) _
    refine XS.bipush X150.here hx rfl (hb hby at_273) ?_
    show Steps p.tables e below (T150.setTop (mkF m 275 #[.val (.long p1), .second, .val (.int p2), .val (.ref pw), .val (.long (Int64.ofNat W)), .second, .val (.int (Int32.ofNat pp)), .val (.ref ca), .unset, .unset, .unset] [(.int (8 : Int32)), (.int (Int32.ofNat pp)), (.long (Int64.ofNat W)), (.int (8 : Int32)), (.ref ca)])) _
    refine XS.aloadN X150.here hx rfl (hb hby at_275) rfl rfl ?_
    show Steps p.tables e below (T150.setTop (mkF m 276 #[.val (.long p1), .second, .val (.int p2), .val (.ref pw), .val (.long (Int64.ofNat W)), .second, .val (.int (Int32.ofNat pp)), .val (.ref ca), .unset, .unset, .unset] [(.ref pw), (.int (8 : Int32)), (.int (Int32.ofNat pp)), (.long (Int64.ofNat W)), (.int (8 : Int32)), (.ref ca)])) _
    refine st152 _ ?_
    show Steps p.tables e below (T152.setTop (mkF m 279 #[.val (.long p1), .second, .val (.int p2), .val (.ref pw), .val (.long (Int64.ofNat W)), .second, .val (.int (Int32.ofNat pp)), .val (.ref ca), .unset, .unset, .unset] [(.int (Int32.ofNat (own_ch W pp 8))), (.int (8 : Int32)), (.ref ca)])) _
    refine st153 _ ?_
    show Steps p.tables e below (T153.setTop (mkF m 280 #[.val (.long p1), .second, .val (.int p2), .val (.ref pw), .val (.long (Int64.ofNat W)), .second, .val (.int (Int32.ofNat pp)), .val (.ref ca), .unset, .unset, .unset] [])) _
    refine XS.aload X153.here hx rfl (hb hby at_280) rfl rfl ?_
    show Steps p.tables e below (T153.setTop (mkF m 282 #[.val (.long p1), .second, .val (.int p2), .val (.ref pw), .val (.long (Int64.ofNat W)), .second, .val (.int (Int32.ofNat pp)), .val (.ref ca), .unset, .unset, .unset] [(.ref ca)])) _
    refine XS.bipush X153.here hx rfl (hb hby at_282) ?_
    show Steps p.tables e below (T153.setTop (mkF m 284 #[.val (.long p1), .second, .val (.int p2), .val (.ref pw), .val (.long (Int64.ofNat W)), .second, .val (.int (Int32.ofNat pp)), .val (.ref ca), .unset, .unset, .unset] [(.int (9 : Int32)), (.ref ca)])) _
    refine XS.lload X153.here hx rfl (hb hby at_284) rfl ?_
    show Steps p.tables e below (T153.setTop (mkF m 286 #[.val (.long p1), .second, .val (.int p2), .val (.ref pw), .val (.long (Int64.ofNat W)), .second, .val (.int (Int32.ofNat pp)), .val (.ref ca), .unset, .unset, .unset] [(.long (Int64.ofNat W)), (.int (9 : Int32)), (.ref ca)])) _
    refine XS.iload X153.here hx rfl (hb hby at_286) rfl ?_
    show Steps p.tables e below (T153.setTop (mkF m 288 #[.val (.long p1), .second, .val (.int p2), .val (.ref pw), .val (.long (Int64.ofNat W)), .second, .val (.int (Int32.ofNat pp)), .val (.ref ca), .unset, .unset, .unset] [(.int (Int32.ofNat pp)), (.long (Int64.ofNat W)), (.int (9 : Int32)), (.ref ca)])) _
    refine XS.bipush X153.here hx rfl (hb hby at_288) ?_
    show Steps p.tables e below (T153.setTop (mkF m 290 #[.val (.long p1), .second, .val (.int p2), .val (.ref pw), .val (.long (Int64.ofNat W)), .second, .val (.int (Int32.ofNat pp)), .val (.ref ca), .unset, .unset, .unset] [(.int (9 : Int32)), (.int (Int32.ofNat pp)), (.long (Int64.ofNat W)), (.int (9 : Int32)), (.ref ca)])) _
    refine XS.aloadN X153.here hx rfl (hb hby at_290) rfl rfl ?_
    show Steps p.tables e below (T153.setTop (mkF m 291 #[.val (.long p1), .second, .val (.int p2), .val (.ref pw), .val (.long (Int64.ofNat W)), .second, .val (.int (Int32.ofNat pp)), .val (.ref ca), .unset, .unset, .unset] [(.ref pw), (.int (9 : Int32)), (.int (Int32.ofNat pp)), (.long (Int64.ofNat W)), (.int (9 : Int32)), (.ref ca)])) _
    refine st155 _ ?_
    show Steps p.tables e below (T155.setTop (mkF m 294 #[.val (.long p1), .second, .val (.int p2), .val (.ref pw), .val (.long (Int64.ofNat W)), .second, .val (.int (Int32.ofNat pp)), .val (.ref ca), .unset, .unset, .unset] [(.int (Int32.ofNat (own_ch W pp 9))), (.int (9 : Int32)), (.ref ca)])) _
    refine st156 _ ?_
    show Steps p.tables e below (T156.setTop (mkF m 295 #[.val (.long p1), .second, .val (.int p2), .val (.ref pw), .val (.long (Int64.ofNat W)), .second, .val (.int (Int32.ofNat pp)), .val (.ref ca), .unset, .unset, .unset] [])) _
    refine XS.aload X156.here hx rfl (hb hby at_295) rfl rfl ?_
    show Steps p.tables e below (T156.setTop (mkF m 297 #[.val (.long p1), .second, .val (.int p2), .val (.ref pw), .val (.long (Int64.ofNat W)), .second, .val (.int (Int32.ofNat pp)), .val (.ref ca), .unset, .unset, .unset] [(.ref ca)])) _
    refine XS.bipush X156.here hx rfl (hb hby at_297) ?_
    show Steps p.tables e below (T156.setTop (mkF m 299 #[.val (.long p1), .second, .val (.int p2), .val (.ref pw), .val (.long (Int64.ofNat W)), .second, .val (.int (Int32.ofNat pp)), .val (.ref ca), .unset, .unset, .unset] [(.int (10 : Int32)), (.ref ca)])) _
    refine XS.lload X156.here hx rfl (hb hby at_299) rfl ?_
    show Steps p.tables e below (T156.setTop (mkF m 301 #[.val (.long p1), .second, .val (.int p2), .val (.ref pw), .val (.long (Int64.ofNat W)), .second, .val (.int (Int32.ofNat pp)), .val (.ref ca), .unset, .unset, .unset] [(.long (Int64.ofNat W)), (.int (10 : Int32)), (.ref ca)])) _
    refine XS.iload X156.here hx rfl (hb hby at_301) rfl ?_
    show Steps p.tables e below (T156.setTop (mkF m 303 #[.val (.long p1), .second, .val (.int p2), .val (.ref pw), .val (.long (Int64.ofNat W)), .second, .val (.int (Int32.ofNat pp)), .val (.ref ca), .unset, .unset, .unset] [(.int (Int32.ofNat pp)), (.long (Int64.ofNat W)), (.int (10 : Int32)), (.ref ca)])) _
    refine XS.bipush X156.here hx rfl (hb hby at_303) ?_
    show Steps p.tables e below (T156.setTop (mkF m 305 #[.val (.long p1), .second, .val (.int p2), .val (.ref pw), .val (.long (Int64.ofNat W)), .second, .val (.int (Int32.ofNat pp)), .val (.ref ca), .unset, .unset, .unset] [(.int (10 : Int32)), (.int (Int32.ofNat pp)), (.long (Int64.ofNat W)), (.int (10 : Int32)), (.ref ca)])) _
    refine XS.aloadN X156.here hx rfl (hb hby at_305) rfl rfl ?_
    show Steps p.tables e below (T156.setTop (mkF m 306 #[.val (.long p1), .second, .val (.int p2), .val (.ref pw), .val (.long (Int64.ofNat W)), .second, .val (.int (Int32.ofNat pp)), .val (.ref ca), .unset, .unset, .unset] [(.ref pw), (.int (10 : Int32)), (.int (Int32.ofNat pp)), (.long (Int64.ofNat W)), (.int (10 : Int32)), (.ref ca)])) _
    refine st158 _ ?_
    show Steps p.tables e below (T158.setTop (mkF m 309 #[.val (.long p1), .second, .val (.int p2), .val (.ref pw), .val (.long (Int64.ofNat W)), .second, .val (.int (Int32.ofNat pp)), .val (.ref ca), .unset, .unset, .unset] [(.int (Int32.ofNat (own_ch W pp 10))), (.int (10 : Int32)), (.ref ca)])) _
    refine st159 _ ?_
    show Steps p.tables e below (T159.setTop (mkF m 310 #[.val (.long p1), .second, .val (.int p2), .val (.ref pw), .val (.long (Int64.ofNat W)), .second, .val (.int (Int32.ofNat pp)), .val (.ref ca), .unset, .unset, .unset] [])) _
    refine XS.aload X159.here hx rfl (hb hby at_310) rfl rfl ?_
    show Steps p.tables e below (T159.setTop (mkF m 312 #[.val (.long p1), .second, .val (.int p2), .val (.ref pw), .val (.long (Int64.ofNat W)), .second, .val (.int (Int32.ofNat pp)), .val (.ref ca), .unset, .unset, .unset] [(.ref ca)])) _
    refine XS.bipush X159.here hx rfl (hb hby at_312) ?_
    show Steps p.tables e below (T159.setTop (mkF m 314 #[.val (.long p1), .second, .val (.int p2), .val (.ref pw), .val (.long (Int64.ofNat W)), .second, .val (.int (Int32.ofNat pp)), .val (.ref ca), .unset, .unset, .unset] [(.int (11 : Int32)), (.ref ca)])) _
    refine XS.lload X159.here hx rfl (hb hby at_314) rfl ?_
    show Steps p.tables e below (T159.setTop (mkF m 316 #[.val (.long p1), .second, .val (.int p2), .val (.ref pw), .val (.long (Int64.ofNat W)), .second, .val (.int (Int32.ofNat pp)), .val (.ref ca), .unset, .unset, .unset] [(.long (Int64.ofNat W)), (.int (11 : Int32)), (.ref ca)])) _
    refine XS.iload X159.here hx rfl (hb hby at_316) rfl ?_
    show Steps p.tables e below (T159.setTop (mkF m 318 #[.val (.long p1), .second, .val (.int p2), .val (.ref pw), .val (.long (Int64.ofNat W)), .second, .val (.int (Int32.ofNat pp)), .val (.ref ca), .unset, .unset, .unset] [(.int (Int32.ofNat pp)), (.long (Int64.ofNat W)), (.int (11 : Int32)), (.ref ca)])) _
    refine XS.bipush X159.here hx rfl (hb hby at_318) ?_
    show Steps p.tables e below (T159.setTop (mkF m 320 #[.val (.long p1), .second, .val (.int p2), .val (.ref pw), .val (.long (Int64.ofNat W)), .second, .val (.int (Int32.ofNat pp)), .val (.ref ca), .unset, .unset, .unset] [(.int (11 : Int32)), (.int (Int32.ofNat pp)), (.long (Int64.ofNat W)), (.int (11 : Int32)), (.ref ca)])) _
    refine XS.aloadN X159.here hx rfl (hb hby at_320) rfl rfl ?_
    show Steps p.tables e below (T159.setTop (mkF m 321 #[.val (.long p1), .second, .val (.int p2), .val (.ref pw), .val (.long (Int64.ofNat W)), .second, .val (.int (Int32.ofNat pp)), .val (.ref ca), .unset, .unset, .unset] [(.ref pw), (.int (11 : Int32)), (.int (Int32.ofNat pp)), (.long (Int64.ofNat W)), (.int (11 : Int32)), (.ref ca)])) _
    refine st161 _ ?_
    show Steps p.tables e below (T161.setTop (mkF m 324 #[.val (.long p1), .second, .val (.int p2), .val (.ref pw), .val (.long (Int64.ofNat W)), .second, .val (.int (Int32.ofNat pp)), .val (.ref ca), .unset, .unset, .unset] [(.int (Int32.ofNat (own_ch W pp 11))), (.int (11 : Int32)), (.ref ca)])) _
    refine st162 _ ?_
    show Steps p.tables e below (T162.setTop (mkF m 325 #[.val (.long p1), .second, .val (.int p2), .val (.ref pw), .val (.long (Int64.ofNat W)), .second, .val (.int (Int32.ofNat pp)), .val (.ref ca), .unset, .unset, .unset] [])) _
    refine XS.aload X162.here hx rfl (hb hby at_325) rfl rfl ?_
    show Steps p.tables e below (T162.setTop (mkF m 327 #[.val (.long p1), .second, .val (.int p2), .val (.ref pw), .val (.long (Int64.ofNat W)), .second, .val (.int (Int32.ofNat pp)), .val (.ref ca), .unset, .unset, .unset] [(.ref ca)])) _
    refine XS.bipush X162.here hx rfl (hb hby at_327) ?_
    show Steps p.tables e below (T162.setTop (mkF m 329 #[.val (.long p1), .second, .val (.int p2), .val (.ref pw), .val (.long (Int64.ofNat W)), .second, .val (.int (Int32.ofNat pp)), .val (.ref ca), .unset, .unset, .unset] [(.int (12 : Int32)), (.ref ca)])) _
    refine XS.lload X162.here hx rfl (hb hby at_329) rfl ?_
    show Steps p.tables e below (T162.setTop (mkF m 331 #[.val (.long p1), .second, .val (.int p2), .val (.ref pw), .val (.long (Int64.ofNat W)), .second, .val (.int (Int32.ofNat pp)), .val (.ref ca), .unset, .unset, .unset] [(.long (Int64.ofNat W)), (.int (12 : Int32)), (.ref ca)])) _
    refine XS.iload X162.here hx rfl (hb hby at_331) rfl ?_
    show Steps p.tables e below (T162.setTop (mkF m 333 #[.val (.long p1), .second, .val (.int p2), .val (.ref pw), .val (.long (Int64.ofNat W)), .second, .val (.int (Int32.ofNat pp)), .val (.ref ca), .unset, .unset, .unset] [(.int (Int32.ofNat pp)), (.long (Int64.ofNat W)), (.int (12 : Int32)), (.ref ca)])) _
    refine XS.bipush X162.here hx rfl (hb hby at_333) ?_
    show Steps p.tables e below (T162.setTop (mkF m 335 #[.val (.long p1), .second, .val (.int p2), .val (.ref pw), .val (.long (Int64.ofNat W)), .second, .val (.int (Int32.ofNat pp)), .val (.ref ca), .unset, .unset, .unset] [(.int (12 : Int32)), (.int (Int32.ofNat pp)), (.long (Int64.ofNat W)), (.int (12 : Int32)), (.ref ca)])) _
    refine XS.aloadN X162.here hx rfl (hb hby at_335) rfl rfl ?_
    show Steps p.tables e below (T162.setTop (mkF m 336 #[.val (.long p1), .second, .val (.int p2), .val (.ref pw), .val (.long (Int64.ofNat W)), .second, .val (.int (Int32.ofNat pp)), .val (.ref ca), .unset, .unset, .unset] [(.ref pw), (.int (12 : Int32)), (.int (Int32.ofNat pp)), (.long (Int64.ofNat W)), (.int (12 : Int32)), (.ref ca)])) _
    refine st164 _ ?_
    show Steps p.tables e below (T164.setTop (mkF m 339 #[.val (.long p1), .second, .val (.int p2), .val (.ref pw), .val (.long (Int64.ofNat W)), .second, .val (.int (Int32.ofNat pp)), .val (.ref ca), .unset, .unset, .unset] [(.int (Int32.ofNat (own_ch W pp 12))), (.int (12 : Int32)), (.ref ca)])) _
    refine st165 _ ?_
    show Steps p.tables e below (T165.setTop (mkF m 340 #[.val (.long p1), .second, .val (.int p2), .val (.ref pw), .val (.long (Int64.ofNat W)), .second, .val (.int (Int32.ofNat pp)), .val (.ref ca), .unset, .unset, .unset] [])) _
    refine XS.aload X165.here hx rfl (hb hby at_340) rfl rfl ?_
    show Steps p.tables e below (T165.setTop (mkF m 342 #[.val (.long p1), .second, .val (.int p2), .val (.ref pw), .val (.long (Int64.ofNat W)), .second, .val (.int (Int32.ofNat pp)), .val (.ref ca), .unset, .unset, .unset] [(.ref ca)])) _
    refine XS.bipush X165.here hx rfl (hb hby at_342) ?_
    show Steps p.tables e below (T165.setTop (mkF m 344 #[.val (.long p1), .second, .val (.int p2), .val (.ref pw), .val (.long (Int64.ofNat W)), .second, .val (.int (Int32.ofNat pp)), .val (.ref ca), .unset, .unset, .unset] [(.int (13 : Int32)), (.ref ca)])) _
    refine XS.lload X165.here hx rfl (hb hby at_344) rfl ?_
    show Steps p.tables e below (T165.setTop (mkF m 346 #[.val (.long p1), .second, .val (.int p2), .val (.ref pw), .val (.long (Int64.ofNat W)), .second, .val (.int (Int32.ofNat pp)), .val (.ref ca), .unset, .unset, .unset] [(.long (Int64.ofNat W)), (.int (13 : Int32)), (.ref ca)])) _
    refine XS.iload X165.here hx rfl (hb hby at_346) rfl ?_
    show Steps p.tables e below (T165.setTop (mkF m 348 #[.val (.long p1), .second, .val (.int p2), .val (.ref pw), .val (.long (Int64.ofNat W)), .second, .val (.int (Int32.ofNat pp)), .val (.ref ca), .unset, .unset, .unset] [(.int (Int32.ofNat pp)), (.long (Int64.ofNat W)), (.int (13 : Int32)), (.ref ca)])) _
    refine XS.bipush X165.here hx rfl (hb hby at_348) ?_
    show Steps p.tables e below (T165.setTop (mkF m 350 #[.val (.long p1), .second, .val (.int p2), .val (.ref pw), .val (.long (Int64.ofNat W)), .second, .val (.int (Int32.ofNat pp)), .val (.ref ca), .unset, .unset, .unset] [(.int (13 : Int32)), (.int (Int32.ofNat pp)), (.long (Int64.ofNat W)), (.int (13 : Int32)), (.ref ca)])) _
    refine XS.aloadN X165.here hx rfl (hb hby at_350) rfl rfl ?_
    show Steps p.tables e below (T165.setTop (mkF m 351 #[.val (.long p1), .second, .val (.int p2), .val (.ref pw), .val (.long (Int64.ofNat W)), .second, .val (.int (Int32.ofNat pp)), .val (.ref ca), .unset, .unset, .unset] [(.ref pw), (.int (13 : Int32)), (.int (Int32.ofNat pp)), (.long (Int64.ofNat W)), (.int (13 : Int32)), (.ref ca)])) _
    refine st167 _ ?_
    show Steps p.tables e below (T167.setTop (mkF m 354 #[.val (.long p1), .second, .val (.int p2), .val (.ref pw), .val (.long (Int64.ofNat W)), .second, .val (.int (Int32.ofNat pp)), .val (.ref ca), .unset, .unset, .unset] [(.int (Int32.ofNat (own_ch W pp 13))), (.int (13 : Int32)), (.ref ca)])) _
    refine st168 _ ?_
    show Steps p.tables e below (T168.setTop (mkF m 355 #[.val (.long p1), .second, .val (.int p2), .val (.ref pw), .val (.long (Int64.ofNat W)), .second, .val (.int (Int32.ofNat pp)), .val (.ref ca), .unset, .unset, .unset] [])) _
    refine XS.aload X168.here hx rfl (hb hby at_355) rfl rfl ?_
    show Steps p.tables e below (T168.setTop (mkF m 357 #[.val (.long p1), .second, .val (.int p2), .val (.ref pw), .val (.long (Int64.ofNat W)), .second, .val (.int (Int32.ofNat pp)), .val (.ref ca), .unset, .unset, .unset] [(.ref ca)])) _
    refine XS.bipush X168.here hx rfl (hb hby at_357) ?_
    show Steps p.tables e below (T168.setTop (mkF m 359 #[.val (.long p1), .second, .val (.int p2), .val (.ref pw), .val (.long (Int64.ofNat W)), .second, .val (.int (Int32.ofNat pp)), .val (.ref ca), .unset, .unset, .unset] [(.int (14 : Int32)), (.ref ca)])) _
    refine XS.lload X168.here hx rfl (hb hby at_359) rfl ?_
    show Steps p.tables e below (T168.setTop (mkF m 361 #[.val (.long p1), .second, .val (.int p2), .val (.ref pw), .val (.long (Int64.ofNat W)), .second, .val (.int (Int32.ofNat pp)), .val (.ref ca), .unset, .unset, .unset] [(.long (Int64.ofNat W)), (.int (14 : Int32)), (.ref ca)])) _
    refine XS.iload X168.here hx rfl (hb hby at_361) rfl ?_
    show Steps p.tables e below (T168.setTop (mkF m 363 #[.val (.long p1), .second, .val (.int p2), .val (.ref pw), .val (.long (Int64.ofNat W)), .second, .val (.int (Int32.ofNat pp)), .val (.ref ca), .unset, .unset, .unset] [(.int (Int32.ofNat pp)), (.long (Int64.ofNat W)), (.int (14 : Int32)), (.ref ca)])) _
    refine XS.bipush X168.here hx rfl (hb hby at_363) ?_
    show Steps p.tables e below (T168.setTop (mkF m 365 #[.val (.long p1), .second, .val (.int p2), .val (.ref pw), .val (.long (Int64.ofNat W)), .second, .val (.int (Int32.ofNat pp)), .val (.ref ca), .unset, .unset, .unset] [(.int (14 : Int32)), (.int (Int32.ofNat pp)), (.long (Int64.ofNat W)), (.int (14 : Int32)), (.ref ca)])) _
    refine XS.aloadN X168.here hx rfl (hb hby at_365) rfl rfl ?_
    show Steps p.tables e below (T168.setTop (mkF m 366 #[.val (.long p1), .second, .val (.int p2), .val (.ref pw), .val (.long (Int64.ofNat W)), .second, .val (.int (Int32.ofNat pp)), .val (.ref ca), .unset, .unset, .unset] [(.ref pw), (.int (14 : Int32)), (.int (Int32.ofNat pp)), (.long (Int64.ofNat W)), (.int (14 : Int32)), (.ref ca)])) _
    refine st170 _ ?_
    show Steps p.tables e below (T170.setTop (mkF m 369 #[.val (.long p1), .second, .val (.int p2), .val (.ref pw), .val (.long (Int64.ofNat W)), .second, .val (.int (Int32.ofNat pp)), .val (.ref ca), .unset, .unset, .unset] [(.int (Int32.ofNat (own_ch W pp 14))), (.int (14 : Int32)), (.ref ca)])) _
    refine st171 _ ?_
    show Steps p.tables e below (T171.setTop (mkF m 370 #[.val (.long p1), .second, .val (.int p2), .val (.ref pw), .val (.long (Int64.ofNat W)), .second, .val (.int (Int32.ofNat pp)), .val (.ref ca), .unset, .unset, .unset] [])) _
    refine XS.aload X171.here hx rfl (hb hby at_370) rfl rfl ?_
    show Steps p.tables e below (T171.setTop (mkF m 372 #[.val (.long p1), .second, .val (.int p2), .val (.ref pw), .val (.long (Int64.ofNat W)), .second, .val (.int (Int32.ofNat pp)), .val (.ref ca), .unset, .unset, .unset] [(.ref ca)])) _
    refine XS.bipush X171.here hx rfl (hb hby at_372) ?_
    show Steps p.tables e below (T171.setTop (mkF m 374 #[.val (.long p1), .second, .val (.int p2), .val (.ref pw), .val (.long (Int64.ofNat W)), .second, .val (.int (Int32.ofNat pp)), .val (.ref ca), .unset, .unset, .unset] [(.int (15 : Int32)), (.ref ca)])) _
    refine XS.lload X171.here hx rfl (hb hby at_374) rfl ?_
    show Steps p.tables e below (T171.setTop (mkF m 376 #[.val (.long p1), .second, .val (.int p2), .val (.ref pw), .val (.long (Int64.ofNat W)), .second, .val (.int (Int32.ofNat pp)), .val (.ref ca), .unset, .unset, .unset] [(.long (Int64.ofNat W)), (.int (15 : Int32)), (.ref ca)])) _
    refine XS.iload X171.here hx rfl (hb hby at_376) rfl ?_
    show Steps p.tables e below (T171.setTop (mkF m 378 #[.val (.long p1), .second, .val (.int p2), .val (.ref pw), .val (.long (Int64.ofNat W)), .second, .val (.int (Int32.ofNat pp)), .val (.ref ca), .unset, .unset, .unset] [(.int (Int32.ofNat pp)), (.long (Int64.ofNat W)), (.int (15 : Int32)), (.ref ca)])) _
    refine XS.bipush X171.here hx rfl (hb hby at_378) ?_
    show Steps p.tables e below (T171.setTop (mkF m 380 #[.val (.long p1), .second, .val (.int p2), .val (.ref pw), .val (.long (Int64.ofNat W)), .second, .val (.int (Int32.ofNat pp)), .val (.ref ca), .unset, .unset, .unset] [(.int (15 : Int32)), (.int (Int32.ofNat pp)), (.long (Int64.ofNat W)), (.int (15 : Int32)), (.ref ca)])) _
    refine XS.aloadN X171.here hx rfl (hb hby at_380) rfl rfl ?_
    show Steps p.tables e below (T171.setTop (mkF m 381 #[.val (.long p1), .second, .val (.int p2), .val (.ref pw), .val (.long (Int64.ofNat W)), .second, .val (.int (Int32.ofNat pp)), .val (.ref ca), .unset, .unset, .unset] [(.ref pw), (.int (15 : Int32)), (.int (Int32.ofNat pp)), (.long (Int64.ofNat W)), (.int (15 : Int32)), (.ref ca)])) _
    refine st173 _ ?_
    show Steps p.tables e below (T173.setTop (mkF m 384 #[.val (.long p1), .second, .val (.int p2), .val (.ref pw), .val (.long (Int64.ofNat W)), .second, .val (.int (Int32.ofNat pp)), .val (.ref ca), .unset, .unset, .unset] [(.int (Int32.ofNat (own_ch W pp 15))), (.int (15 : Int32)), (.ref ca)])) _
    refine st174 _ ?_
    show Steps p.tables e below (T174.setTop (mkF m 385 #[.val (.long p1), .second, .val (.int p2), .val (.ref pw), .val (.long (Int64.ofNat W)), .second, .val (.int (Int32.ofNat pp)), .val (.ref ca), .unset, .unset, .unset] [])) _
    refine XS.aload X174.here hx rfl (hb hby at_385) rfl rfl ?_
    show Steps p.tables e below (T174.setTop (mkF m 387 #[.val (.long p1), .second, .val (.int p2), .val (.ref pw), .val (.long (Int64.ofNat W)), .second, .val (.int (Int32.ofNat pp)), .val (.ref ca), .unset, .unset, .unset] [(.ref ca)])) _
    refine XS.bipush X174.here hx rfl (hb hby at_387) ?_
    show Steps p.tables e below (T174.setTop (mkF m 389 #[.val (.long p1), .second, .val (.int p2), .val (.ref pw), .val (.long (Int64.ofNat W)), .second, .val (.int (Int32.ofNat pp)), .val (.ref ca), .unset, .unset, .unset] [(.int (16 : Int32)), (.ref ca)])) _
    refine XS.lload X174.here hx rfl (hb hby at_389) rfl ?_
    show Steps p.tables e below (T174.setTop (mkF m 391 #[.val (.long p1), .second, .val (.int p2), .val (.ref pw), .val (.long (Int64.ofNat W)), .second, .val (.int (Int32.ofNat pp)), .val (.ref ca), .unset, .unset, .unset] [(.long (Int64.ofNat W)), (.int (16 : Int32)), (.ref ca)])) _
    refine XS.iload X174.here hx rfl (hb hby at_391) rfl ?_
    show Steps p.tables e below (T174.setTop (mkF m 393 #[.val (.long p1), .second, .val (.int p2), .val (.ref pw), .val (.long (Int64.ofNat W)), .second, .val (.int (Int32.ofNat pp)), .val (.ref ca), .unset, .unset, .unset] [(.int (Int32.ofNat pp)), (.long (Int64.ofNat W)), (.int (16 : Int32)), (.ref ca)])) _
    refine XS.bipush X174.here hx rfl (hb hby at_393) ?_
    show Steps p.tables e below (T174.setTop (mkF m 395 #[.val (.long p1), .second, .val (.int p2), .val (.ref pw), .val (.long (Int64.ofNat W)), .second, .val (.int (Int32.ofNat pp)), .val (.ref ca), .unset, .unset, .unset] [(.int (16 : Int32)), (.int (Int32.ofNat pp)), (.long (Int64.ofNat W)), (.int (16 : Int32)), (.ref ca)])) _
    refine XS.aloadN X174.here hx rfl (hb hby at_395) rfl rfl ?_
    show Steps p.tables e below (T174.setTop (mkF m 396 #[.val (.long p1), .second, .val (.int p2), .val (.ref pw), .val (.long (Int64.ofNat W)), .second, .val (.int (Int32.ofNat pp)), .val (.ref ca), .unset, .unset, .unset] [(.ref pw), (.int (16 : Int32)), (.int (Int32.ofNat pp)), (.long (Int64.ofNat W)), (.int (16 : Int32)), (.ref ca)])) _
    refine st176 _ ?_
    show Steps p.tables e below (T176.setTop (mkF m 399 #[.val (.long p1), .second, .val (.int p2), .val (.ref pw), .val (.long (Int64.ofNat W)), .second, .val (.int (Int32.ofNat pp)), .val (.ref ca), .unset, .unset, .unset] [(.int (Int32.ofNat (own_ch W pp 16))), (.int (16 : Int32)), (.ref ca)])) _
    refine st177 _ ?_
    show Steps p.tables e below (T177.setTop (mkF m 400 #[.val (.long p1), .second, .val (.int p2), .val (.ref pw), .val (.long (Int64.ofNat W)), .second, .val (.int (Int32.ofNat pp)), .val (.ref ca), .unset, .unset, .unset] [])) _
    refine XS.aload X177.here hx rfl (hb hby at_400) rfl rfl ?_
    show Steps p.tables e below (T177.setTop (mkF m 402 #[.val (.long p1), .second, .val (.int p2), .val (.ref pw), .val (.long (Int64.ofNat W)), .second, .val (.int (Int32.ofNat pp)), .val (.ref ca), .unset, .unset, .unset] [(.ref ca)])) _
    refine XS.bipush X177.here hx rfl (hb hby at_402) ?_
    show Steps p.tables e below (T177.setTop (mkF m 404 #[.val (.long p1), .second, .val (.int p2), .val (.ref pw), .val (.long (Int64.ofNat W)), .second, .val (.int (Int32.ofNat pp)), .val (.ref ca), .unset, .unset, .unset] [(.int (17 : Int32)), (.ref ca)])) _
    refine XS.lload X177.here hx rfl (hb hby at_404) rfl ?_
    show Steps p.tables e below (T177.setTop (mkF m 406 #[.val (.long p1), .second, .val (.int p2), .val (.ref pw), .val (.long (Int64.ofNat W)), .second, .val (.int (Int32.ofNat pp)), .val (.ref ca), .unset, .unset, .unset] [(.long (Int64.ofNat W)), (.int (17 : Int32)), (.ref ca)])) _
    refine XS.iload X177.here hx rfl (hb hby at_406) rfl ?_
    show Steps p.tables e below (T177.setTop (mkF m 408 #[.val (.long p1), .second, .val (.int p2), .val (.ref pw), .val (.long (Int64.ofNat W)), .second, .val (.int (Int32.ofNat pp)), .val (.ref ca), .unset, .unset, .unset] [(.int (Int32.ofNat pp)), (.long (Int64.ofNat W)), (.int (17 : Int32)), (.ref ca)])) _
    refine XS.bipush X177.here hx rfl (hb hby at_408) ?_
    show Steps p.tables e below (T177.setTop (mkF m 410 #[.val (.long p1), .second, .val (.int p2), .val (.ref pw), .val (.long (Int64.ofNat W)), .second, .val (.int (Int32.ofNat pp)), .val (.ref ca), .unset, .unset, .unset] [(.int (17 : Int32)), (.int (Int32.ofNat pp)), (.long (Int64.ofNat W)), (.int (17 : Int32)), (.ref ca)])) _
    refine XS.aloadN X177.here hx rfl (hb hby at_410) rfl rfl ?_
    show Steps p.tables e below (T177.setTop (mkF m 411 #[.val (.long p1), .second, .val (.int p2), .val (.ref pw), .val (.long (Int64.ofNat W)), .second, .val (.int (Int32.ofNat pp)), .val (.ref ca), .unset, .unset, .unset] [(.ref pw), (.int (17 : Int32)), (.int (Int32.ofNat pp)), (.long (Int64.ofNat W)), (.int (17 : Int32)), (.ref ca)])) _
    refine st179 _ ?_
    show Steps p.tables e below (T179.setTop (mkF m 414 #[.val (.long p1), .second, .val (.int p2), .val (.ref pw), .val (.long (Int64.ofNat W)), .second, .val (.int (Int32.ofNat pp)), .val (.ref ca), .unset, .unset, .unset] [(.int (Int32.ofNat (own_ch W pp 17))), (.int (17 : Int32)), (.ref ca)])) _
    refine st180 _ ?_
    show Steps p.tables e below (T180.setTop (mkF m 415 #[.val (.long p1), .second, .val (.int p2), .val (.ref pw), .val (.long (Int64.ofNat W)), .second, .val (.int (Int32.ofNat pp)), .val (.ref ca), .unset, .unset, .unset] [])) _
    refine XS.aload X180.here hx rfl (hb hby at_415) rfl rfl ?_
    show Steps p.tables e below (T180.setTop (mkF m 417 #[.val (.long p1), .second, .val (.int p2), .val (.ref pw), .val (.long (Int64.ofNat W)), .second, .val (.int (Int32.ofNat pp)), .val (.ref ca), .unset, .unset, .unset] [(.ref ca)])) _
    refine XS.bipush X180.here hx rfl (hb hby at_417) ?_
    show Steps p.tables e below (T180.setTop (mkF m 419 #[.val (.long p1), .second, .val (.int p2), .val (.ref pw), .val (.long (Int64.ofNat W)), .second, .val (.int (Int32.ofNat pp)), .val (.ref ca), .unset, .unset, .unset] [(.int (18 : Int32)), (.ref ca)])) _
    refine XS.lload X180.here hx rfl (hb hby at_419) rfl ?_
    show Steps p.tables e below (T180.setTop (mkF m 421 #[.val (.long p1), .second, .val (.int p2), .val (.ref pw), .val (.long (Int64.ofNat W)), .second, .val (.int (Int32.ofNat pp)), .val (.ref ca), .unset, .unset, .unset] [(.long (Int64.ofNat W)), (.int (18 : Int32)), (.ref ca)])) _
    refine XS.iload X180.here hx rfl (hb hby at_421) rfl ?_
    show Steps p.tables e below (T180.setTop (mkF m 423 #[.val (.long p1), .second, .val (.int p2), .val (.ref pw), .val (.long (Int64.ofNat W)), .second, .val (.int (Int32.ofNat pp)), .val (.ref ca), .unset, .unset, .unset] [(.int (Int32.ofNat pp)), (.long (Int64.ofNat W)), (.int (18 : Int32)), (.ref ca)])) _
    refine XS.bipush X180.here hx rfl (hb hby at_423) ?_
    show Steps p.tables e below (T180.setTop (mkF m 425 #[.val (.long p1), .second, .val (.int p2), .val (.ref pw), .val (.long (Int64.ofNat W)), .second, .val (.int (Int32.ofNat pp)), .val (.ref ca), .unset, .unset, .unset] [(.int (18 : Int32)), (.int (Int32.ofNat pp)), (.long (Int64.ofNat W)), (.int (18 : Int32)), (.ref ca)])) _
    refine XS.aloadN X180.here hx rfl (hb hby at_425) rfl rfl ?_
    show Steps p.tables e below (T180.setTop (mkF m 426 #[.val (.long p1), .second, .val (.int p2), .val (.ref pw), .val (.long (Int64.ofNat W)), .second, .val (.int (Int32.ofNat pp)), .val (.ref ca), .unset, .unset, .unset] [(.ref pw), (.int (18 : Int32)), (.int (Int32.ofNat pp)), (.long (Int64.ofNat W)), (.int (18 : Int32)), (.ref ca)])) _
    refine st182 _ ?_
    show Steps p.tables e below (T182.setTop (mkF m 429 #[.val (.long p1), .second, .val (.int p2), .val (.ref pw), .val (.long (Int64.ofNat W)), .second, .val (.int (Int32.ofNat pp)), .val (.ref ca), .unset, .unset, .unset] [(.int (Int32.ofNat (own_ch W pp 18))), (.int (18 : Int32)), (.ref ca)])) _
    refine st183 _ ?_
    show Steps p.tables e below (T183.setTop (mkF m 430 #[.val (.long p1), .second, .val (.int p2), .val (.ref pw), .val (.long (Int64.ofNat W)), .second, .val (.int (Int32.ofNat pp)), .val (.ref ca), .unset, .unset, .unset] [])) _
    refine st184 _ ?_
    show Steps p.tables e below (T184.setTop (mkF m 433 #[.val (.long p1), .second, .val (.int p2), .val (.ref pw), .val (.long (Int64.ofNat W)), .second, .val (.int (Int32.ofNat pp)), .val (.ref ca), .unset, .unset, .unset] [(.ref fl)])) _
    refine XS.dup X184.here hx rfl (hb hby at_433) rfl rfl ?_
    show Steps p.tables e below (T184.setTop (mkF m 434 #[.val (.long p1), .second, .val (.int p2), .val (.ref pw), .val (.long (Int64.ofNat W)), .second, .val (.int (Int32.ofNat pp)), .val (.ref ca), .unset, .unset, .unset] [(.ref fl), (.ref fl)])) _
    refine st189.trans ?_
    show Steps p.tables e below (T189.setTop (mkF m 437 #[.val (.long p1), .second, .val (.int p2), .val (.ref pw), .val (.long (Int64.ofNat W)), .second, .val (.int (Int32.ofNat pp)), .val (.ref ca), .unset, .unset, .unset] [(.ref fl)])) _
    refine XS.astore X189.here hx rfl (hb hby at_437) rfl rfl (l' := #[.val (.long p1), .second, .val (.int p2), .val (.ref pw), .val (.long (Int64.ofNat W)), .second, .val (.int (Int32.ofNat pp)), .val (.ref ca), .val (.ref fl), .unset, .unset]) rfl ?_
    show Steps p.tables e below (T189.setTop (mkF m 439 #[.val (.long p1), .second, .val (.int p2), .val (.ref pw), .val (.long (Int64.ofNat W)), .second, .val (.int (Int32.ofNat pp)), .val (.ref ca), .val (.ref fl), .unset, .unset] [])) _
    refine XS.aload X189.here hx rfl (hb hby at_439) rfl rfl ?_
    show Steps p.tables e below (T189.setTop (mkF m 441 #[.val (.long p1), .second, .val (.int p2), .val (.ref pw), .val (.long (Int64.ofNat W)), .second, .val (.int (Int32.ofNat pp)), .val (.ref ca), .val (.ref fl), .unset, .unset] [(.ref fl)])) _
    refine st192 _ ?_
    show Steps p.tables e below (T192.setTop (mkF m 444 #[.val (.long p1), .second, .val (.int p2), .val (.ref pw), .val (.long (Int64.ofNat W)), .second, .val (.int (Int32.ofNat pp)), .val (.ref ca), .val (.ref fl), .unset, .unset] [(.ref s1), (.ref fl)])) _
    refine XS.dup X192.here hx rfl (hb hby at_444) rfl rfl ?_
    show Steps p.tables e below (T192.setTop (mkF m 445 #[.val (.long p1), .second, .val (.int p2), .val (.ref pw), .val (.long (Int64.ofNat W)), .second, .val (.int (Int32.ofNat pp)), .val (.ref ca), .val (.ref fl), .unset, .unset] [(.ref s1), (.ref s1), (.ref fl)])) _
    refine XS.aload X192.here hx rfl (hb hby at_445) rfl rfl ?_
    show Steps p.tables e below (T192.setTop (mkF m 447 #[.val (.long p1), .second, .val (.int p2), .val (.ref pw), .val (.long (Int64.ofNat W)), .second, .val (.int (Int32.ofNat pp)), .val (.ref ca), .val (.ref fl), .unset, .unset] [(.ref ca), (.ref s1), (.ref s1), (.ref fl)])) _
    refine st200.trans ?_
    show Steps p.tables e below (T200.setTop (mkF m 450 #[.val (.long p1), .second, .val (.int p2), .val (.ref pw), .val (.long (Int64.ofNat W)), .second, .val (.int (Int32.ofNat pp)), .val (.ref ca), .val (.ref fl), .unset, .unset] [(.ref s1), (.ref fl)])) _
    refine XS.bipush X200.here hx rfl (hb hby at_450) ?_
    show Steps p.tables e below (T200.setTop (mkF m 452 #[.val (.long p1), .second, .val (.int p2), .val (.ref pw), .val (.long (Int64.ofNat W)), .second, .val (.int (Int32.ofNat pp)), .val (.ref ca), .val (.ref fl), .unset, .unset] [(.int (44 : Int32)), (.ref s1), (.ref fl)])) _
    refine st208.trans ?_
    show Steps p.tables e below (T208.setTop (mkF m 455 #[.val (.long p1), .second, .val (.int p2), .val (.ref pw), .val (.long (Int64.ofNat W)), .second, .val (.int (Int32.ofNat pp)), .val (.ref ca), .val (.ref fl), .unset, .unset] [])) _
    refine XS.aload X208.here hx rfl (hb hby at_455) rfl rfl ?_
    show Steps p.tables e below (T208.setTop (mkF m 457 #[.val (.long p1), .second, .val (.int p2), .val (.ref pw), .val (.long (Int64.ofNat W)), .second, .val (.int (Int32.ofNat pp)), .val (.ref ca), .val (.ref fl), .unset, .unset] [(.ref fl)])) _
    refine st209.trans ?_
    show Steps p.tables e below (T209.setTop (mkF m 460 #[.val (.long p1), .second, .val (.int p2), .val (.ref pw), .val (.long (Int64.ofNat W)), .second, .val (.int (Int32.ofNat pp)), .val (.ref ca), .val (.ref fl), .unset, .unset] [(.int (2 : Int32))])) _
    refine XS.iconst X209.here hx rfl (hb hby at_460) ?_
    show Steps p.tables e below (T209.setTop (mkF m 461 #[.val (.long p1), .second, .val (.int p2), .val (.ref pw), .val (.long (Int64.ofNat W)), .second, .val (.int (Int32.ofNat pp)), .val (.ref ca), .val (.ref fl), .unset, .unset] [(.int (2 : Int32)), (.int (2 : Int32))])) _
    refine XS.icmpYes X209.here hx rfl (pc0 := 461) (pc' := 466) rfl (hb hby at_461) rfl (teq (rfl : (2 : Int32) = (2 : Int32))).1 (by decide) (by decide) ?_
    show Steps p.tables e below (T209.setTop (mkF m 466 #[.val (.long p1), .second, .val (.int p2), .val (.ref pw), .val (.long (Int64.ofNat W)), .second, .val (.int (Int32.ofNat pp)), .val (.ref ca), .val (.ref fl), .unset, .unset] [])) _
    refine XS.aloadN X209.here hx rfl (hb hby at_466) rfl rfl ?_
    show Steps p.tables e below (T209.setTop (mkF m 467 #[.val (.long p1), .second, .val (.int p2), .val (.ref pw), .val (.long (Int64.ofNat W)), .second, .val (.int (Int32.ofNat pp)), .val (.ref ca), .val (.ref fl), .unset, .unset] [(.ref pw)])) _
    refine XS.bipush X209.here hx rfl (hb hby at_467) ?_
    show Steps p.tables e below (T209.setTop (mkF m 469 #[.val (.long p1), .second, .val (.int p2), .val (.ref pw), .val (.long (Int64.ofNat W)), .second, .val (.int (Int32.ofNat pp)), .val (.ref ca), .val (.ref fl), .unset, .unset] [(.int (18 : Int32)), (.ref pw)])) _
    refine XS.iload X209.here hx rfl (hb hby at_469) rfl ?_
    show Steps p.tables e below (T209.setTop (mkF m 471 #[.val (.long p1), .second, .val (.int p2), .val (.ref pw), .val (.long (Int64.ofNat W)), .second, .val (.int (Int32.ofNat pp)), .val (.ref ca), .val (.ref fl), .unset, .unset] [(.int (Int32.ofNat pp)), (.int (18 : Int32)), (.ref pw)])) _
    refine XS.isub X209.here hx rfl (hb hby at_471) rfl ?_
    show Steps p.tables e below (T209.setTop (mkF m 472 #[.val (.long p1), .second, .val (.int p2), .val (.ref pw), .val (.long (Int64.ofNat W)), .second, .val (.int (Int32.ofNat pp)), .val (.ref ca), .val (.ref fl), .unset, .unset] [(.int ((18 : Int32) - (Int32.ofNat pp))), (.ref pw)])) _
    refine X209.laload hx (j := ((18 : Int32) - (Int32.ofNat pp))) (v := (.long (Int64.ofNat (10 ^ (18 - pp))))) (by rw [e209]; exact Ar211.1) (State.isArrayOf_alike hZ.alike Ar211.2.1) Ar211.2.2 hin211 hat211 (g := (mkF m 472 #[.val (.long p1), .second, .val (.int p2), .val (.ref pw), .val (.long (Int64.ofNat W)), .second, .val (.int (Int32.ofNat pp)), .val (.ref ca), .val (.ref fl), .unset, .unset] [(.int ((18 : Int32) - (Int32.ofNat pp))), (.ref pw)])) rfl rfl (hb hby at_472) _ ?_
    show Steps p.tables e below (T209.setTop (mkF m 473 #[.val (.long p1), .second, .val (.int p2), .val (.ref pw), .val (.long (Int64.ofNat W)), .second, .val (.int (Int32.ofNat pp)), .val (.ref ca), .val (.ref fl), .unset, .unset] [(.long (Int64.ofNat (10 ^ (18 - pp))))])) _
    refine XS.lstore X209.here hx rfl (hb hby at_473) rfl (l' := #[.val (.long p1), .second, .val (.int p2), .val (.ref pw), .val (.long (Int64.ofNat W)), .second, .val (.int (Int32.ofNat pp)), .val (.ref ca), .val (.ref fl), .val (.long (Int64.ofNat (10 ^ (18 - pp)))), .second]) rfl ?_
    show Steps p.tables e below (T209.setTop (mkF m 475 #[.val (.long p1), .second, .val (.int p2), .val (.ref pw), .val (.long (Int64.ofNat W)), .second, .val (.int (Int32.ofNat pp)), .val (.ref ca), .val (.ref fl), .val (.long (Int64.ofNat (10 ^ (18 - pp)))), .second] [])) _
    refine XS.aload X209.here hx rfl (hb hby at_475) rfl rfl ?_
    show Steps p.tables e below (T209.setTop (mkF m 477 #[.val (.long p1), .second, .val (.int p2), .val (.ref pw), .val (.long (Int64.ofNat W)), .second, .val (.int (Int32.ofNat pp)), .val (.ref ca), .val (.ref fl), .val (.long (Int64.ofNat (10 ^ (18 - pp)))), .second] [(.ref fl)])) _
    refine XS.iconst X209.here hx rfl (hb hby at_477) ?_
    show Steps p.tables e below (T209.setTop (mkF m 478 #[.val (.long p1), .second, .val (.int p2), .val (.ref pw), .val (.long (Int64.ofNat W)), .second, .val (.int (Int32.ofNat pp)), .val (.ref ca), .val (.ref fl), .val (.long (Int64.ofNat (10 ^ (18 - pp)))), .second] [(.int (0 : Int32)), (.ref fl)])) _
    refine st212.trans ?_
    show Steps p.tables e below (T212.setTop (mkF m 481 #[.val (.long p1), .second, .val (.int p2), .val (.ref pw), .val (.long (Int64.ofNat W)), .second, .val (.int (Int32.ofNat pp)), .val (.ref ca), .val (.ref fl), .val (.long (Int64.ofNat (10 ^ (18 - pp)))), .second] [(.long (Int64.ofNat (W / 10 ^ (18 - pp))))])) _
    refine XS.lload X212.here hx rfl (hb hby at_481) rfl ?_
    show Steps p.tables e below (T212.setTop (mkF m 483 #[.val (.long p1), .second, .val (.int p2), .val (.ref pw), .val (.long (Int64.ofNat W)), .second, .val (.int (Int32.ofNat pp)), .val (.ref ca), .val (.ref fl), .val (.long (Int64.ofNat (10 ^ (18 - pp)))), .second] [(.long (Int64.ofNat W)), (.long (Int64.ofNat (W / 10 ^ (18 - pp))))])) _
    refine XS.lload X212.here hx rfl (hb hby at_483) rfl ?_
    show Steps p.tables e below (T212.setTop (mkF m 485 #[.val (.long p1), .second, .val (.int p2), .val (.ref pw), .val (.long (Int64.ofNat W)), .second, .val (.int (Int32.ofNat pp)), .val (.ref ca), .val (.ref fl), .val (.long (Int64.ofNat (10 ^ (18 - pp)))), .second] [(.long (Int64.ofNat (10 ^ (18 - pp)))), (.long (Int64.ofNat W)), (.long (Int64.ofNat (W / 10 ^ (18 - pp))))])) _
    refine XS.ldiv X212.here hx rfl (hb hby at_485) rfl (own_pw_ne (by omega)) ?_
    show Steps p.tables e below (T212.setTop (mkF m 486 #[.val (.long p1), .second, .val (.int p2), .val (.ref pw), .val (.long (Int64.ofNat W)), .second, .val (.int (Int32.ofNat pp)), .val (.ref ca), .val (.ref fl), .val (.long (Int64.ofNat (10 ^ (18 - pp)))), .second] [(.long ((Int64.ofNat W) / (Int64.ofNat (10 ^ (18 - pp))))), (.long (Int64.ofNat (W / 10 ^ (18 - pp))))])) _
    refine XS.lcmp X212.here hx rfl (hb hby at_486) rfl ?_
    show Steps p.tables e below (T212.setTop (mkF m 487 #[.val (.long p1), .second, .val (.int p2), .val (.ref pw), .val (.long (Int64.ofNat W)), .second, .val (.int (Int32.ofNat pp)), .val (.ref ca), .val (.ref fl), .val (.long (Int64.ofNat (10 ^ (18 - pp)))), .second] [(.int (lcmpW (Int64.ofNat (W / 10 ^ (18 - pp))) ((Int64.ofNat W) / (Int64.ofNat (10 ^ (18 - pp))))))])) _
    refine XS.ifNo X212.here hx rfl (hb hby at_487) rfl ((if0 _ _).trans (teq ((lw_eq _ _).mpr (own_div64 hWn (own_pow_lt (by omega))).symm : (lcmpW (Int64.ofNat (W / 10 ^ (18 - pp))) ((Int64.ofNat W) / (Int64.ofNat (10 ^ (18 - pp))))) = (0 : Int32))).2) ?_
    show Steps p.tables e below (T212.setTop (mkF m 490 #[.val (.long p1), .second, .val (.int p2), .val (.ref pw), .val (.long (Int64.ofNat W)), .second, .val (.int (Int32.ofNat pp)), .val (.ref ca), .val (.ref fl), .val (.long (Int64.ofNat (10 ^ (18 - pp)))), .second] [])) _
    refine XS.aload X212.here hx rfl (hb hby at_490) rfl rfl ?_
    show Steps p.tables e below (T212.setTop (mkF m 492 #[.val (.long p1), .second, .val (.int p2), .val (.ref pw), .val (.long (Int64.ofNat W)), .second, .val (.int (Int32.ofNat pp)), .val (.ref ca), .val (.ref fl), .val (.long (Int64.ofNat (10 ^ (18 - pp)))), .second] [(.ref fl)])) _
    refine XS.iconst X212.here hx rfl (hb hby at_492) ?_
    show Steps p.tables e below (T212.setTop (mkF m 493 #[.val (.long p1), .second, .val (.int p2), .val (.ref pw), .val (.long (Int64.ofNat W)), .second, .val (.int (Int32.ofNat pp)), .val (.ref ca), .val (.ref fl), .val (.long (Int64.ofNat (10 ^ (18 - pp)))), .second] [(.int (1 : Int32)), (.ref fl)])) _
    refine st213.trans ?_
    show Steps p.tables e below (T213.setTop (mkF m 496 #[.val (.long p1), .second, .val (.int p2), .val (.ref pw), .val (.long (Int64.ofNat W)), .second, .val (.int (Int32.ofNat pp)), .val (.ref ca), .val (.ref fl), .val (.long (Int64.ofNat (10 ^ (18 - pp)))), .second] [(.long (Int64.ofNat (own_F1 W pp 19)))])) _
    refine XS.lload X213.here hx rfl (hb hby at_496) rfl ?_
    show Steps p.tables e below (T213.setTop (mkF m 498 #[.val (.long p1), .second, .val (.int p2), .val (.ref pw), .val (.long (Int64.ofNat W)), .second, .val (.int (Int32.ofNat pp)), .val (.ref ca), .val (.ref fl), .val (.long (Int64.ofNat (10 ^ (18 - pp)))), .second] [(.long (Int64.ofNat W)), (.long (Int64.ofNat (own_F1 W pp 19)))])) _
    refine XS.lload X213.here hx rfl (hb hby at_498) rfl ?_
    show Steps p.tables e below (T213.setTop (mkF m 500 #[.val (.long p1), .second, .val (.int p2), .val (.ref pw), .val (.long (Int64.ofNat W)), .second, .val (.int (Int32.ofNat pp)), .val (.ref ca), .val (.ref fl), .val (.long (Int64.ofNat (10 ^ (18 - pp)))), .second] [(.long (Int64.ofNat (10 ^ (18 - pp)))), (.long (Int64.ofNat W)), (.long (Int64.ofNat (own_F1 W pp 19)))])) _
    refine XS.lrem X213.here hx rfl (hb hby at_500) rfl (own_pw_ne (by omega)) ?_
    show Steps p.tables e below (T213.setTop (mkF m 501 #[.val (.long p1), .second, .val (.int p2), .val (.ref pw), .val (.long (Int64.ofNat W)), .second, .val (.int (Int32.ofNat pp)), .val (.ref ca), .val (.ref fl), .val (.long (Int64.ofNat (10 ^ (18 - pp)))), .second] [(.long ((Int64.ofNat W) - ((Int64.ofNat W) / (Int64.ofNat (10 ^ (18 - pp)))) * (Int64.ofNat (10 ^ (18 - pp))))), (.long (Int64.ofNat (own_F1 W pp 19)))])) _
    refine XS.lcmp X213.here hx rfl (hb hby at_501) rfl ?_
    show Steps p.tables e below (T213.setTop (mkF m 502 #[.val (.long p1), .second, .val (.int p2), .val (.ref pw), .val (.long (Int64.ofNat W)), .second, .val (.int (Int32.ofNat pp)), .val (.ref ca), .val (.ref fl), .val (.long (Int64.ofNat (10 ^ (18 - pp)))), .second] [(.int (lcmpW (Int64.ofNat (own_F1 W pp 19)) ((Int64.ofNat W) - ((Int64.ofNat W) / (Int64.ofNat (10 ^ (18 - pp)))) * (Int64.ofNat (10 ^ (18 - pp))))))])) _
    refine XS.ifNo X213.here hx rfl (hb hby at_502) rfl ((if0 _ _).trans (teq ((lw_eq _ _).mpr ((congrArg Int64.ofNat (own_f1e hpp)).trans (own_rem64 hWn (own_pow_lt (by omega))).symm) : (lcmpW (Int64.ofNat (own_F1 W pp 19)) ((Int64.ofNat W) - ((Int64.ofNat W) / (Int64.ofNat (10 ^ (18 - pp)))) * (Int64.ofNat (10 ^ (18 - pp))))) = (0 : Int32))).2) ?_
    show Steps p.tables e below (T213.setTop (mkF m 505 #[.val (.long p1), .second, .val (.int p2), .val (.ref pw), .val (.long (Int64.ofNat W)), .second, .val (.int (Int32.ofNat pp)), .val (.ref ca), .val (.ref fl), .val (.long (Int64.ofNat (10 ^ (18 - pp)))), .second] [])) _
    refine XS.iconst X213.here hx rfl (hb hby at_505) ?_
    show Steps p.tables e below (T213.setTop (mkF m 506 #[.val (.long p1), .second, .val (.int p2), .val (.ref pw), .val (.long (Int64.ofNat W)), .second, .val (.int (Int32.ofNat pp)), .val (.ref ca), .val (.ref fl), .val (.long (Int64.ofNat (10 ^ (18 - pp)))), .second] [(.int (1 : Int32))])) _
    refine XS.goto X213.here hx rfl (pc0 := 506) (pc' := 510) rfl (hb hby at_506) (by decide) (by decide) ?_
    show Steps p.tables e below (T213.setTop (mkF m 510 #[.val (.long p1), .second, .val (.int p2), .val (.ref pw), .val (.long (Int64.ofNat W)), .second, .val (.int (Int32.ofNat pp)), .val (.ref ca), .val (.ref fl), .val (.long (Int64.ofNat (10 ^ (18 - pp)))), .second] [(.int (1 : Int32))])) _
    exact retN X213 hx (t := .boolean) Bd.returns (by simp) (hb hby at_510) hr
  · show Q0 h0 n0 _ T213.heap _
    rw [e213]
    exact ⟨rfl, N213⟩
set_option maxRecDepth 65536 in
set_option maxHeartbeats 40000000 in
theorem comes_1 {Post : Tables → Env → Array Value → State → Outcome → State → Prop} (hpost : ∀ tb e args s v u, (limb_1_1.after args s (.returned v) u = true ∧ limb_1_2.after args s (.returned v) u = true ∧ True) → FrameEnd s (.returned v) u (Jvm.fieldLocs frame_1_writes args s ++ Jvm.arrayLocs frame_1_arrays args s ++ Jvm.staticLocs frame_1_statics s) 24 640 → Post tb e args s (.returned v) u) :
    ArmFor flags0 classFile x code maxLocals ret World_1 tables_1 room_1 Calls_1 rest_1 Pre_1 Post := by
  intro l hfl _ _ p e ha hc hk s m args below hf hA hF happ hP
  obtain ⟨hcalls, hrest, hpre⟩ := hP
  obtain ⟨-, -, -, hnamed, -, -, -, hat⟩ := (Spec.applies_iff hf).mp happ
  obtain ⟨hg, hn⟩ := and_e (Cond.before_iff.mp (show (Jvm.Cond.and given_1 narrow_1).before args s = true from hpre))
  obtain ⟨c1a, c1b⟩ := and_e hg
  obtain ⟨c2a, c2b⟩ := and_e c1b
  obtain ⟨w0, w1, rfl⟩ : ∃ w0 w1 : Value, args = #[w0, w1] := by
    have hs : args.size = 2 := by simpa [Cond.value, given_1] using c1a
    obtain ⟨L⟩ := args
    match L, hs with
    | [w0, w1], _ => exact ⟨w0, w1, rfl⟩
  have hw := fun d (hd : d ∈ tables_1) => atoms_spec (ws := Jvm.Cond.code x code maxLocals ret :: tables_1) hat d (List.mem_cons_of_mem _ hd)
  have hfit : Fit s := fun {y c} hc i hi => by
    obtain ⟨ha, rfl⟩ := Array.getElem?_eq_some_iff.mp hc
    have q := List.all_eq_true.mp ((Array.all_eq_true_iff_forall_mem.mp hF) _ (Array.getElem_mem ha)) i (List.mem_range.mpr hi)
    simpa [Array.getElem?_eq_getElem hi] using q
  obtain ⟨hsets, hown0⟩ := atoms_of _ (rest_1_c_eq ▸ (show rest_1_c.before _ s = true from hrest))
  have n_cs := not_v (Cond.before_iff.mp (hsets _ (List.mem_of_getElem? (i := 2) rfl)))
  obtain ⟨i_cs, e_cs⟩ := is_v (Cond.before_iff.mp (hsets _ (List.mem_of_getElem? (i := 1) rfl)))
  have S_cs : Sta s s.heap "java/lang/String" "COMPACT_STRINGS" "Z" (.int i_cs) := Sta.start e_cs (Or.inl (hsets _ (List.mem_of_getElem? (i := 0) rfl)))
  have c_cs : ¬ (i_cs = (0 : Int32)) := gotF (Cond.eq_ints e_cs (Term.int_eval (0))) n_cs
  obtain ⟨v_sf, e_sf, r_sf⟩ := isR_v (Cond.before_iff.mp (hsets _ (List.mem_of_getElem? (i := 8) rfl)))
  have S_sf : Sta s s.heap "jdk/internal/util/Preconditions" "SIOOBE_FORMATTER" "Ljava/util/function/BiFunction;" v_sf := Sta.start e_sf (Or.inl (hsets _ (List.mem_of_getElem? (i := 7) rfl)))
  obtain ⟨i0, ei0⟩ := isL_v c2a
  obtain rfl : w0 = (.long i0) := Option.some.inj ei0
  obtain ⟨i1, ei1⟩ := is_v c2b
  obtain rfl : w1 = (.int i1) := Option.some.inj ei1
  obtain ⟨n, o, h1, h2, h3, _, L, rfl, ⟨rfl, N⟩, hq⟩ := rm0 l s _ hw tables_1 i0 i1 i_cs v_sf s.heap s.heap.size (Nat.le_refl _) S_cs c_cs S_sf r_sf (Old.start s) p e ha hc hk s m _ below hf ((Spec.applies_iff_loose hf).mp happ).1 ⟨rfl, State.Warmed39.refl s, rfl⟩ trivial
  refine ⟨n, _, h1, h2, h3, hpost _ _ _ _ _ _ ⟨Cond.after_iff.mpr rfl, Cond.after_iff.mpr (eq_i res_at (Term.int_eval (1)) rfl), trivial⟩ ⟨hq.1, hq.2.1, (hq.2.2.sift fun y hy => Or.inr (N y hy)).mono (by decide) (by decide)⟩⟩
theorem main_1_1 : Claimed_1_1 := comes_1 fun _ _ _ _ _ _ h hF => ⟨h.1, hF⟩
theorem main_1_2 : Claimed_1_2 := comes_1 fun _ _ _ _ _ _ h hF => ⟨h.2.1, hF⟩
end Jvm.Pilot.@@N@@
namespace Jvm.Pilot.@@N@@
open Jvm Jvm.ClassFile Sem Op Lib Jvm.Free Jvm.Stand Jvm.Pilot.@@N@@.Jvm.D
/-! MADE BY PROGRAM (witnessworld.py) out of the Statement's table words and the real class files: 22 classes; the members and pool entries that the words name. The judged class is class 1, her method 1. -/
namespace start1
open Jvm.ClassFile
def u (s : String) : CpInfo := .utf8 (stringToUtf16 s)
/-- a pool by its gaps: so many unusable entries, then the entry; so many at the end -/
def gap : Nat → List CpInfo → List CpInfo
  | 0, r => r
  | n + 1, r => .unusable :: gap n r
def poolList (es : List (Nat × CpInfo)) (last : Nat) : List CpInfo := es.foldr (fun e r => gap e.1 (e.2 :: r)) (gap last [])
def pool (es : List (Nat × CpInfo)) (last : Nat) : Array CpInfo := ⟨poolList es last⟩
def fileOf (pool : Array CpInfo) (this : Nat) (attrs : Array Attribute := #[]) (ms : Array MethodInfo := #[]) (fl : Nat := 33) (sup : Nat := 0) (ifs : Array Nat := #[]) (fds : Array FieldInfo := #[]) : ClassFile where
  minorVersion := 0
  majorVersion := 65
  constantPool := pool
  accessFlags := fl
  thisClass := this
  superClass := sup
  interfaces := ifs
  fields := fds
  methods := ms
  attributes := attrs
def plain (name : String) (sup : Option ClassId) : Class where
  name := name
  kind := .ordinary
  loader := none
  accessFlags := 33
  super := sup
  interfaces := #[]
  cf := none
  fields := #[]
  methods := #[]
  instanceTypes := #[]
  staticTypes := #[]
  resolved := #[]
  callSites := []
  init := .initialized
  statics := none
  mirror := none

def pool0 : Array CpInfo := pool [(5, u "<init>"), (0, u "()V"), (1, .class_ 10), (1, u "java/lang/Object")] 113

def k0c0 : Code := { maxStack := 0, maxLocals := 1, code := object_method_1_code, exceptionTable := #[], attributes := #[] }
def k0m0 : Method := { name := "<init>", desc := "()V", sig := { parameters := [], returnType := none }, accessFlags := 1, code := some k0c0 }
/-- java/lang/Object -/
def k0 : Class := { plain "java/lang/Object" none with
  accessFlags := 33
  interfaces := #[]
  cf := some (fileOf pool0 8 #[] #[{ accessFlags := 1, nameIndex := 5, descriptorIndex := 6, attributes := #[] }] 33 0 #[] #[])
  fields := #[]
  methods := #[k0m0]
  instanceTypes := #[]
  staticTypes := #[]
  resolved := Array.replicate 124 none
  statics := none }

def pool1 : Array CpInfo := pool [(2, .class_ 4), (0, .nameAndType 5 6), (0, u "java/lang/Object"), (0, u "<init>"), (0, u "()V"), (0, .long 10), (1, .long 100), (1, .long 1000), (1, .long 10000), (1, .long 100000), (1, .long 1000000), (1, .long 10000000), (1, .long 100000000), (1, .long 1000000000), (1, .long 10000000000), (1, .long 100000000000), (1, .long 1000000000000), (1, .long 10000000000000), (1, .long 100000000000000), (1, .long 1000000000000000), (1, .long 10000000000000000), (1, .long 100000000000000000), (1, .long 1000000000000000000), (3, .long 9223372036854775807), (1, .integer 2147483647), (0, .methodref 49 50), (0, .class_ 51), (0, .nameAndType 52 53), (0, u "com/example/allotrope/allotrope/workload/FieldsWholePinLaw"), (0, u "ch"), (0, u "(JII[J)C"), (0, .class_ 55), (0, u "com/example/allotrope/allotrope/workload/Fields"), (0, .methodref 54 3), (0, .class_ 58), (0, u "java/lang/String"), (0, .methodref 57 60), (0, .nameAndType 5 61), (0, u "([C)V"), (0, .methodref 54 63), (0, .nameAndType 64 65), (0, u "splitAt"), (0, u "(Ljava/lang/String;C)V"), (0, .methodref 54 67), (0, .nameAndType 68 69), (0, u "count"), (0, u "()I"), (0, .methodref 54 71), (0, .nameAndType 72 73), (0, u "whole"), (0, u "(I)J"), (0, .methodref 49 75), (0, .nameAndType 76 77), (0, u "digit"), (0, u "(JI[J)C"), (2, u "law"), (0, u "(JI)Z")] 7

def k1m0 : Method := { name := "<init>", desc := "()V", sig := { parameters := [], returnType := none }, accessFlags := 1, code := none }
def k1c1 : Code := { maxStack := 7, maxLocals := 11, code := code, exceptionTable := #[], attributes := #[] }
def k1m1 : Method := { name := "law", desc := "(JI)Z", sig := { parameters := [.long, .int], returnType := some .boolean }, accessFlags := 9, code := some k1c1 }
def k1c2 : Code := { maxStack := 6, maxLocals := 4, code := method_3_code, exceptionTable := #[], attributes := #[] }
def k1m2 : Method := { name := "digit", desc := "(JI[J)C", sig := { parameters := [.long, .int, (.array .long)], returnType := some .char }, accessFlags := 10, code := some k1c2 }
def k1c3 : Code := { maxStack := 4, maxLocals := 5, code := method_4_code, exceptionTable := #[], attributes := #[] }
def k1m3 : Method := { name := "ch", desc := "(JII[J)C", sig := { parameters := [.long, .int, .int, (.array .long)], returnType := some .char }, accessFlags := 10, code := some k1c3 }
/-- com/example/allotrope/allotrope/workload/FieldsWholePinLaw -/
def k1 : Class := { plain "com/example/allotrope/allotrope/workload/FieldsWholePinLaw" (some 0) with
  accessFlags := 49
  interfaces := #[]
  cf := some (fileOf pool1 49 #[] #[{ accessFlags := 1, nameIndex := 5, descriptorIndex := 6, attributes := #[] }, { accessFlags := 9, nameIndex := 80, descriptorIndex := 81, attributes := #[] }, { accessFlags := 10, nameIndex := 76, descriptorIndex := 77, attributes := #[] }, { accessFlags := 10, nameIndex := 52, descriptorIndex := 53, attributes := #[] }] 49 2 #[] #[])
  fields := #[]
  methods := #[k1m0, k1m1, k1m2, k1m3]
  instanceTypes := #[]
  staticTypes := #[]
  resolved := Array.replicate 89 none
  statics := none }

def pool2 : Array CpInfo := pool [(1, .class_ 2), (0, u "com/example/allotrope/allotrope/workload/Fields"), (0, .methodref 4 5), (0, .class_ 6), (0, .nameAndType 7 8), (0, u "java/lang/Object"), (0, u "<init>"), (0, u "()V"), (0, .fieldref 1 10), (0, .nameAndType 11 12), (0, u "line"), (0, u "[C"), (0, .fieldref 1 14), (0, .nameAndType 15 16), (0, u "starts"), (0, u "[I"), (0, .fieldref 1 18), (0, .nameAndType 19 16), (0, u "ends"), (0, .methodref 1 21), (0, .nameAndType 22 23), (0, u "take"), (0, u "(Ljava/lang/String;)V"), (0, .fieldref 1 25), (0, .nameAndType 26 27), (0, u "length"), (0, u "I"), (0, .methodref 1 29), (0, .nameAndType 30 31), (0, u "add"), (0, u "(II)V"), (4, .methodref 37 38), (0, .class_ 39), (0, .nameAndType 26 40), (0, u "java/lang/String"), (0, u "()I"), (6, .methodref 37 48), (0, .nameAndType 49 50), (0, u "getChars"), (0, u "(II[CI)V"), (0, .fieldref 1 52), (0, .nameAndType 53 27), (0, u "count"), (51, .long 10), (1, u "ID_DIGITS"), (2, u "ID_TEXT"), (0, u "Ljava/lang/String;"), (4, u "splitAt"), (0, u "(Ljava/lang/String;C)V"), (10, u "whole"), (0, u "(I)J")] 2

def k2c0 : Code := { maxStack := 2, maxLocals := 1, code := prog_224_method_1_code, exceptionTable := #[], attributes := #[] }
def k2m0 : Method := { name := "<init>", desc := "()V", sig := { parameters := [], returnType := none }, accessFlags := 0, code := some k2c0 }
def k2c1 : Code := { maxStack := 3, maxLocals := 5, code := prog_224_method_2_code, exceptionTable := #[], attributes := #[] }
def k2m1 : Method := { name := "splitAt", desc := "(Ljava/lang/String;C)V", sig := { parameters := [(.object "java/lang/String"), .char], returnType := none }, accessFlags := 0, code := some k2c1 }
def k2c2 : Code := { maxStack := 5, maxLocals := 2, code := prog_224_method_4_code, exceptionTable := #[], attributes := #[] }
def k2m2 : Method := { name := "take", desc := "(Ljava/lang/String;)V", sig := { parameters := [(.object "java/lang/String")], returnType := none }, accessFlags := 2, code := some k2c2 }
def k2c3 : Code := { maxStack := 4, maxLocals := 3, code := prog_224_method_7_code, exceptionTable := #[], attributes := #[] }
def k2m3 : Method := { name := "add", desc := "(II)V", sig := { parameters := [.int, .int], returnType := none }, accessFlags := 2, code := some k2c3 }
def k2c4 : Code := { maxStack := 1, maxLocals := 1, code := prog_224_method_8_code, exceptionTable := #[], attributes := #[] }
def k2m4 : Method := { name := "count", desc := "()I", sig := { parameters := [], returnType := some .int }, accessFlags := 0, code := some k2c4 }
def k2c5 : Code := { maxStack := 4, maxLocals := 5, code := prog_224_method_18_code, exceptionTable := #[], attributes := #[] }
def k2m5 : Method := { name := "whole", desc := "(I)J", sig := { parameters := [.int], returnType := some .long }, accessFlags := 0, code := some k2c5 }
/-- com/example/allotrope/allotrope/workload/Fields -/
def k2 : Class := { plain "com/example/allotrope/allotrope/workload/Fields" (some 0) with
  accessFlags := 48
  interfaces := #[]
  cf := some (fileOf pool2 1 #[] #[{ accessFlags := 0, nameIndex := 7, descriptorIndex := 8, attributes := #[] }, { accessFlags := 0, nameIndex := 116, descriptorIndex := 117, attributes := #[] }, { accessFlags := 2, nameIndex := 22, descriptorIndex := 23, attributes := #[] }, { accessFlags := 2, nameIndex := 30, descriptorIndex := 31, attributes := #[] }, { accessFlags := 0, nameIndex := 53, descriptorIndex := 40, attributes := #[] }, { accessFlags := 0, nameIndex := 128, descriptorIndex := 129, attributes := #[] }] 48 4 #[] #[{ accessFlags := 24, nameIndex := 107, descriptorIndex := 27, attributes := #[] }, { accessFlags := 24, nameIndex := 110, descriptorIndex := 111, attributes := #[] }, { accessFlags := 2, nameIndex := 11, descriptorIndex := 12, attributes := #[] }, { accessFlags := 2, nameIndex := 26, descriptorIndex := 27, attributes := #[] }, { accessFlags := 2, nameIndex := 53, descriptorIndex := 27, attributes := #[] }, { accessFlags := 2, nameIndex := 15, descriptorIndex := 16, attributes := #[] }, { accessFlags := 2, nameIndex := 19, descriptorIndex := 16, attributes := #[] }])
  fields := #[{ name := "ID_DIGITS", type := .int, accessFlags := 24, slot := 0, constantValue := 0 }, { name := "ID_TEXT", type := (.object "java/lang/String"), accessFlags := 24, slot := 1, constantValue := 0 }, { name := "line", type := (.array .char), accessFlags := 2, slot := 0, constantValue := 0 }, { name := "length", type := .int, accessFlags := 2, slot := 1, constantValue := 0 }, { name := "count", type := .int, accessFlags := 2, slot := 2, constantValue := 0 }, { name := "starts", type := (.array .int), accessFlags := 2, slot := 3, constantValue := 0 }, { name := "ends", type := (.array .int), accessFlags := 2, slot := 4, constantValue := 0 }]
  methods := #[k2m0, k2m1, k2m2, k2m3, k2m4, k2m5]
  instanceTypes := #[(.array .char), .int, .int, (.array .int), (.array .int)]
  staticTypes := #[.int, (.object "java/lang/String")]
  resolved := Array.replicate 132 none
  statics := none }

def pool3 : Array CpInfo := pool [(1, .class_ 2), (0, u "java/io/Serializable"), (0, .class_ 4), (0, u "java/lang/Object")] 2

/-- java/io/Serializable -/
def k3 : Class := { plain "java/io/Serializable" (some 0) with
  accessFlags := 1537
  interfaces := #[]
  cf := some (fileOf pool3 1 #[] #[] 1537 3 #[] #[])
  fields := #[]
  methods := #[]
  instanceTypes := #[]
  staticTypes := #[]
  resolved := Array.replicate 7 none
  statics := none }

def pool4 : Array CpInfo := pool [(1, .class_ 2), (0, u "java/lang/Comparable"), (0, .class_ 4), (0, u "java/lang/Object")] 7

/-- java/lang/Comparable -/
def k4 : Class := { plain "java/lang/Comparable" (some 0) with
  accessFlags := 1537
  interfaces := #[]
  cf := some (fileOf pool4 1 #[] #[] 1537 3 #[] #[])
  fields := #[]
  methods := #[]
  instanceTypes := #[]
  staticTypes := #[]
  resolved := Array.replicate 12 none
  statics := none }

def pool5 : Array CpInfo := pool [(2, .class_ 4), (1, u "java/lang/CharSequence"), (42, .class_ 48), (0, u "java/lang/CharSequence$1CodePointIterator"), (10, .class_ 60), (0, u "java/lang/CharSequence$1CharIterator"), (5, .class_ 67), (0, u "java/lang/Object")] 63

/-- java/lang/CharSequence -/
def k5 : Class := { plain "java/lang/CharSequence" (some 0) with
  accessFlags := 1537
  interfaces := #[]
  cf := some (fileOf pool5 2 #[.nestMembers #[47, 59]] #[] 1537 66 #[] #[])
  fields := #[]
  methods := #[]
  instanceTypes := #[]
  staticTypes := #[]
  resolved := Array.replicate 131 none
  statics := none }

def pool6 : Array CpInfo := pool [(1, .class_ 2), (0, u "java/lang/constant/Constable"), (0, .class_ 4), (0, u "java/lang/Object")] 6

/-- java/lang/constant/Constable -/
def k6 : Class := { plain "java/lang/constant/Constable" (some 0) with
  accessFlags := 1537
  interfaces := #[]
  cf := some (fileOf pool6 1 #[] #[] 1537 3 #[] #[])
  fields := #[]
  methods := #[]
  instanceTypes := #[]
  staticTypes := #[]
  resolved := Array.replicate 11 none
  statics := none }

def pool7 : Array CpInfo := pool [(1, .class_ 2), (0, u "java/lang/constant/ConstantDesc"), (0, .class_ 4), (0, u "java/lang/Object")] 32

/-- java/lang/constant/ConstantDesc -/
def k7 : Class := { plain "java/lang/constant/ConstantDesc" (some 0) with
  accessFlags := 1537
  interfaces := #[]
  cf := some (fileOf pool7 1 #[] #[] 1537 3 #[] #[])
  fields := #[]
  methods := #[]
  instanceTypes := #[]
  staticTypes := #[]
  resolved := Array.replicate 37 none
  statics := none }

def pool8 : Array CpInfo := pool [(1, .methodref 2 3), (0, .class_ 4), (0, .nameAndType 5 6), (0, u "java/lang/Object"), (0, u "<init>"), (0, u "()V"), (2, .fieldref 10 11), (0, .class_ 12), (0, .nameAndType 13 14), (0, u "java/lang/String"), (0, u "value"), (0, u "[B"), (0, .fieldref 10 16), (0, .nameAndType 17 18), (0, u "coder"), (0, u "B"), (2, u "hash"), (0, u "I"), (2, u "hashIsZero"), (0, u "Z"), (0, .methodref 10 28), (0, .nameAndType 5 29), (0, u "([CIILjava/lang/Void;)V"), (4, .methodref 10 35), (0, .nameAndType 36 37), (0, u "checkBoundsOffCount"), (0, u "(III)I"), (0, .fieldref 10 39), (0, .nameAndType 40 26), (0, u "COMPACT_STRINGS"), (1, .class_ 44), (1, u "java/lang/StringUTF16"), (0, u "compress"), (1, .methodref 42 48), (0, .nameAndType 49 50), (0, u "coderFromArrayLen"), (0, u "([BI)B"), (56, .class_ 109), (1, u "java/lang/StringLatin1"), (32, u "()Z"), (34, .methodref 42 178), (0, .nameAndType 45 179), (0, u "([CII)[B"), (154, u "()I"), (0, .methodref 10 336), (0, .nameAndType 17 337), (0, u "()B"), (154, .methodref 10 493), (0, .nameAndType 494 142), (0, u "isLatin1"), (10, .methodref 10 506), (0, .nameAndType 507 334), (0, u "length"), (5, u "checkFromToIndex"), (7, .methodref 10 522), (0, .nameAndType 523 524), (0, u "checkBoundsBeginEnd"), (0, u "(III)V"), (0, .methodref 107 526), (0, .nameAndType 527 528), (0, u "getChars"), (0, u "([BII[CI)V"), (46, .class_ 576), (0, u "java/lang/CharSequence"), (22, u "CASE_INSENSITIVE_ORDER"), (0, u "Ljava/util/Comparator;"), (409, u "([C)V"), (42, .fieldref 1054 1055), (0, .class_ 1056), (0, .nameAndType 1057 1058), (0, u "jdk/internal/util/Preconditions"), (0, u "SIOOBE_FORMATTER"), (0, u "Ljava/util/function/BiFunction;"), (3, .methodref 1054 1063), (0, .nameAndType 513 1064), (0, u "(IIILjava/util/function/BiFunction;)I"), (0, .methodref 1054 1066), (0, .nameAndType 1067 1064), (0, u "checkFromIndexSize"), (33, u "serialPersistentFields"), (0, u "[Ljava/io/ObjectStreamField;"), (0, .class_ 1104), (0, u "java/lang/String$CaseInsensitiveComparator"), (1, .class_ 1107), (0, u "java/io/Serializable"), (0, .class_ 1109), (0, u "java/lang/Comparable"), (0, .class_ 1111), (0, u "java/lang/constant/Constable"), (0, .class_ 1113), (0, u "java/lang/constant/ConstantDesc"), (2, u "serialVersionUID"), (0, u "J"), (3, u "REPL"), (0, u "C"), (2, u "LATIN1"), (1, u "UTF16"), (112, u "(II[CI)V")] 210

def k8m0 : Method := { name := "<init>", desc := "()V", sig := { parameters := [], returnType := none }, accessFlags := 1, code := none }
def k8c1 : Code := { maxStack := 5, maxLocals := 2, code := jdk_42_method_3_code, exceptionTable := #[], attributes := #[] }
def k8m1 : Method := { name := "<init>", desc := "([C)V", sig := { parameters := [(.array .char)], returnType := none }, accessFlags := 1, code := some k8c1 }
def k8c2 : Code := { maxStack := 2, maxLocals := 1, code := jdk_42_method_54_code, exceptionTable := #[], attributes := #[] }
def k8m2 : Method := { name := "length", desc := "()I", sig := { parameters := [], returnType := some .int }, accessFlags := 1, code := some k8c2 }
def k8c3 : Code := { maxStack := 5, maxLocals := 5, code := jdk_42_method_61_code, exceptionTable := #[], attributes := #[] }
def k8m3 : Method := { name := "getChars", desc := "(II[CI)V", sig := { parameters := [.int, .int, (.array .char), .int], returnType := none }, accessFlags := 1, code := some k8c3 }
def k8c4 : Code := { maxStack := 4, maxLocals := 6, code := jdk_42_method_149_code, exceptionTable := #[], attributes := #[] }
def k8m4 : Method := { name := "<init>", desc := "([CIILjava/lang/Void;)V", sig := { parameters := [(.array .char), .int, .int, (.object "java/lang/Void")], returnType := none }, accessFlags := 2, code := some k8c4 }
def k8c5 : Code := { maxStack := 1, maxLocals := 1, code := jdk_42_method_152_code, exceptionTable := #[], attributes := #[] }
def k8m5 : Method := { name := "coder", desc := "()B", sig := { parameters := [], returnType := some .byte }, accessFlags := 0, code := some k8c5 }
def k8c6 : Code := { maxStack := 1, maxLocals := 1, code := jdk_42_method_154_code, exceptionTable := #[], attributes := #[] }
def k8m6 : Method := { name := "isLatin1", desc := "()Z", sig := { parameters := [], returnType := some .boolean }, accessFlags := 0, code := some k8c6 }
def k8c7 : Code := { maxStack := 4, maxLocals := 3, code := jdk_42_method_157_code, exceptionTable := #[], attributes := #[] }
def k8m7 : Method := { name := "checkBoundsOffCount", desc := "(III)I", sig := { parameters := [.int, .int, .int], returnType := some .int }, accessFlags := 8, code := some k8c7 }
def k8c8 : Code := { maxStack := 4, maxLocals := 3, code := jdk_42_method_158_code, exceptionTable := #[], attributes := #[] }
def k8m8 : Method := { name := "checkBoundsBeginEnd", desc := "(III)V", sig := { parameters := [.int, .int, .int], returnType := none }, accessFlags := 8, code := some k8c8 }
/-- java/lang/String -/
def k8 : Class := { plain "java/lang/String" (some 0) with
  accessFlags := 49
  interfaces := #[3, 4, 5, 6, 7]
  cf := some (fileOf pool8 10 #[.nestMembers #[1103]] #[{ accessFlags := 1, nameIndex := 5, descriptorIndex := 6, attributes := #[] }, { accessFlags := 1, nameIndex := 5, descriptorIndex := 1010, attributes := #[] }, { accessFlags := 1, nameIndex := 507, descriptorIndex := 334, attributes := #[] }, { accessFlags := 1, nameIndex := 527, descriptorIndex := 1240, attributes := #[] }, { accessFlags := 2, nameIndex := 5, descriptorIndex := 29, attributes := #[] }, { accessFlags := 0, nameIndex := 17, descriptorIndex := 337, attributes := #[] }, { accessFlags := 0, nameIndex := 494, descriptorIndex := 142, attributes := #[] }, { accessFlags := 8, nameIndex := 36, descriptorIndex := 37, attributes := #[] }, { accessFlags := 8, nameIndex := 523, descriptorIndex := 524, attributes := #[] }] 49 2 #[1106, 1108, 575, 1110, 1112] #[{ accessFlags := 18, nameIndex := 13, descriptorIndex := 14, attributes := #[] }, { accessFlags := 18, nameIndex := 17, descriptorIndex := 18, attributes := #[] }, { accessFlags := 2, nameIndex := 21, descriptorIndex := 22, attributes := #[] }, { accessFlags := 2, nameIndex := 25, descriptorIndex := 26, attributes := #[] }, { accessFlags := 26, nameIndex := 1116, descriptorIndex := 1117, attributes := #[] }, { accessFlags := 24, nameIndex := 40, descriptorIndex := 26, attributes := #[] }, { accessFlags := 26, nameIndex := 1101, descriptorIndex := 1102, attributes := #[] }, { accessFlags := 26, nameIndex := 1121, descriptorIndex := 1122, attributes := #[] }, { accessFlags := 25, nameIndex := 599, descriptorIndex := 600, attributes := #[] }, { accessFlags := 24, nameIndex := 1125, descriptorIndex := 18, attributes := #[] }, { accessFlags := 24, nameIndex := 1127, descriptorIndex := 18, attributes := #[] }])
  fields := #[{ name := "value", type := (.array .byte), accessFlags := 18, slot := 0, constantValue := 0 }, { name := "coder", type := .byte, accessFlags := 18, slot := 1, constantValue := 0 }, { name := "hash", type := .int, accessFlags := 2, slot := 2, constantValue := 0 }, { name := "hashIsZero", type := .boolean, accessFlags := 2, slot := 3, constantValue := 0 }, { name := "serialVersionUID", type := .long, accessFlags := 26, slot := 0, constantValue := 0 }, { name := "COMPACT_STRINGS", type := .boolean, accessFlags := 24, slot := 1, constantValue := 0 }, { name := "serialPersistentFields", type := (.array (.object "java/io/ObjectStreamField")), accessFlags := 26, slot := 2, constantValue := 0 }, { name := "REPL", type := .char, accessFlags := 26, slot := 3, constantValue := 0 }, { name := "CASE_INSENSITIVE_ORDER", type := (.object "java/util/Comparator"), accessFlags := 25, slot := 4, constantValue := 0 }, { name := "LATIN1", type := .byte, accessFlags := 24, slot := 5, constantValue := 0 }, { name := "UTF16", type := .byte, accessFlags := 24, slot := 6, constantValue := 0 }]
  methods := #[k8m0, k8m1, k8m2, k8m3, k8m4, k8m5, k8m6, k8m7, k8m8]
  instanceTypes := #[(.array .byte), .byte, .int, .boolean]
  staticTypes := #[.long, .boolean, (.array (.object "java/io/ObjectStreamField")), .char, (.object "java/util/Comparator"), .byte, .byte]
  resolved := Array.replicate 1451 none
  statics := some 0 }

def pool9 : Array CpInfo := pool [(6, .class_ 8), (1, u "java/lang/Object"), (0, u "<init>"), (0, u "()V"), (1, .class_ 14), (1, u "java/lang/StringUTF16"), (31, u "$assertionsDisabled"), (0, u "Z"), (13, u "HI_BYTE_SHIFT"), (0, u "I"), (2, u "LO_BYTE_SHIFT"), (49, .methodref 12 116), (0, .nameAndType 117 118), (0, u "compress"), (0, u "([CI[BII)I"), (3, u "([CII)[B"), (138, u "coderFromArrayLen"), (0, u "([BI)B"), (106, .class_ 371), (1, u "java/lang/StringUTF16$LinesSpliterator"), (58, u "MAX_LENGTH"), (196, .class_ 628), (0, u "java/lang/StringUTF16$CodePointsSpliterator"), (0, .class_ 630), (0, u "java/lang/StringUTF16$CharsSpliterator")] 4

def k9m0 : Method := { name := "<init>", desc := "()V", sig := { parameters := [], returnType := none }, accessFlags := 0, code := none }
def k9c1 : Code := { maxStack := 2, maxLocals := 2, code := jdk_52_method_15_code, exceptionTable := #[], attributes := #[] }
def k9m1 : Method := { name := "coderFromArrayLen", desc := "([BI)B", sig := { parameters := [(.array .byte), .int], returnType := some .byte }, accessFlags := 8, code := some k9c1 }
def k9c2 : Code := { maxStack := 5, maxLocals := 6, code := jdk_52_method_16_code, exceptionTable := #[], attributes := #[] }
def k9m2 : Method := { name := "compress", desc := "([CII)[B", sig := { parameters := [(.array .char), .int, .int], returnType := some (.array .byte) }, accessFlags := 9, code := some k9c2 }
def k9c3 : Code := { maxStack := 3, maxLocals := 7, code := jdk_52_method_21_code, exceptionTable := #[], attributes := #[] }
def k9m3 : Method := { name := "compress", desc := "([CI[BII)I", sig := { parameters := [(.array .char), .int, (.array .byte), .int, .int], returnType := some .int }, accessFlags := 9, code := some k9c3 }
/-- java/lang/StringUTF16 -/
def k9 : Class := { plain "java/lang/StringUTF16" (some 0) with
  accessFlags := 48
  interfaces := #[]
  cf := some (fileOf pool9 12 #[.nestMembers #[627, 629, 369]] #[{ accessFlags := 0, nameIndex := 9, descriptorIndex := 10, attributes := #[] }, { accessFlags := 8, nameIndex := 261, descriptorIndex := 262, attributes := #[] }, { accessFlags := 9, nameIndex := 117, descriptorIndex := 122, attributes := #[] }, { accessFlags := 9, nameIndex := 117, descriptorIndex := 118, attributes := #[] }] 48 6 #[] #[{ accessFlags := 26, nameIndex := 61, descriptorIndex := 62, attributes := #[] }, { accessFlags := 26, nameIndex := 65, descriptorIndex := 62, attributes := #[] }, { accessFlags := 24, nameIndex := 430, descriptorIndex := 62, attributes := #[] }, { accessFlags := 4120, nameIndex := 46, descriptorIndex := 47, attributes := #[] }])
  fields := #[{ name := "HI_BYTE_SHIFT", type := .int, accessFlags := 26, slot := 0, constantValue := 0 }, { name := "LO_BYTE_SHIFT", type := .int, accessFlags := 26, slot := 1, constantValue := 0 }, { name := "MAX_LENGTH", type := .int, accessFlags := 24, slot := 2, constantValue := 0 }, { name := "$assertionsDisabled", type := .boolean, accessFlags := 4120, slot := 3, constantValue := 0 }]
  methods := #[k9m0, k9m1, k9m2, k9m3]
  instanceTypes := #[]
  staticTypes := #[.int, .int, .int, .boolean]
  resolved := Array.replicate 635 none
  statics := none }

def pool10 : Array CpInfo := pool [(2, .class_ 4), (1, u "java/lang/Object"), (0, u "<init>"), (0, u "()V"), (17, .class_ 26), (1, u "jdk/internal/util/Preconditions"), (20, u "checkFromToIndex"), (1, u "checkFromIndexSize"), (5, .class_ 56), (0, u "jdk/internal/util/Preconditions$4"), (57, .class_ 115), (0, u "jdk/internal/util/Preconditions$1"), (7, u "SIOOBE_FORMATTER"), (0, u "Ljava/util/function/BiFunction;"), (0, .class_ 126), (0, u "jdk/internal/util/Preconditions$2"), (3, u "AIOOBE_FORMATTER"), (0, .class_ 132), (0, u "jdk/internal/util/Preconditions$3"), (3, u "IOOBE_FORMATTER"), (46, u "(IIILjava/util/function/BiFunction;)I")] 10

def k10m0 : Method := { name := "<init>", desc := "()V", sig := { parameters := [], returnType := none }, accessFlags := 1, code := none }
def k10c1 : Code := { maxStack := 4, maxLocals := 4, code := jdk_41_method_12_code, exceptionTable := #[], attributes := #[] }
def k10m1 : Method := { name := "checkFromToIndex", desc := "(IIILjava/util/function/BiFunction;)I", sig := { parameters := [.int, .int, .int, (.object "java/util/function/BiFunction")], returnType := some .int }, accessFlags := 9, code := some k10c1 }
def k10c2 : Code := { maxStack := 4, maxLocals := 4, code := jdk_41_method_13_code, exceptionTable := #[], attributes := #[] }
def k10m2 : Method := { name := "checkFromIndexSize", desc := "(IIILjava/util/function/BiFunction;)I", sig := { parameters := [.int, .int, .int, (.object "java/util/function/BiFunction")], returnType := some .int }, accessFlags := 9, code := some k10c2 }
/-- jdk/internal/util/Preconditions -/
def k10 : Class := { plain "jdk/internal/util/Preconditions" (some 0) with
  accessFlags := 33
  interfaces := #[]
  cf := some (fileOf pool10 24 #[.nestMembers #[55, 131, 125, 114]] #[{ accessFlags := 1, nameIndex := 5, descriptorIndex := 6, attributes := #[] }, { accessFlags := 9, nameIndex := 47, descriptorIndex := 183, attributes := #[] }, { accessFlags := 9, nameIndex := 49, descriptorIndex := 183, attributes := #[] }] 33 2 #[] #[{ accessFlags := 25, nameIndex := 123, descriptorIndex := 124, attributes := #[] }, { accessFlags := 25, nameIndex := 130, descriptorIndex := 124, attributes := #[] }, { accessFlags := 25, nameIndex := 136, descriptorIndex := 124, attributes := #[] }])
  fields := #[{ name := "SIOOBE_FORMATTER", type := (.object "java/util/function/BiFunction"), accessFlags := 25, slot := 0, constantValue := 0 }, { name := "AIOOBE_FORMATTER", type := (.object "java/util/function/BiFunction"), accessFlags := 25, slot := 1, constantValue := 0 }, { name := "IOOBE_FORMATTER", type := (.object "java/util/function/BiFunction"), accessFlags := 25, slot := 2, constantValue := 0 }]
  methods := #[k10m0, k10m1, k10m2]
  instanceTypes := #[]
  staticTypes := #[(.object "java/util/function/BiFunction"), (.object "java/util/function/BiFunction"), (.object "java/util/function/BiFunction")]
  resolved := Array.replicate 194 none
  statics := some 1 }

def pool11 : Array CpInfo := pool [(4, .class_ 6), (1, u "java/lang/Object"), (0, u "<init>"), (0, u "()V"), (4, .methodref 14 15), (0, .class_ 16), (0, .nameAndType 17 18), (0, u "java/lang/StringLatin1"), (0, u "inflate"), (0, u "([BI[CII)V"), (102, u "$assertionsDisabled"), (0, u "Z"), (98, .class_ 223), (1, u "java/lang/StringLatin1$LinesSpliterator"), (50, u "getChars"), (0, u "([BII[CI)V"), (114, .class_ 391), (0, u "java/lang/StringLatin1$CharsSpliterator")] 3

def k11m0 : Method := { name := "<init>", desc := "()V", sig := { parameters := [], returnType := none }, accessFlags := 0, code := none }
def k11c1 : Code := { maxStack := 6, maxLocals := 5, code := jdk_43_method_11_code, exceptionTable := #[], attributes := #[] }
def k11m1 : Method := { name := "getChars", desc := "([BII[CI)V", sig := { parameters := [(.array .byte), .int, .int, (.array .char), .int], returnType := none }, accessFlags := 9, code := some k11c1 }
def k11c2 : Code := { maxStack := 4, maxLocals := 6, code := jdk_43_method_49_code, exceptionTable := #[], attributes := #[] }
def k11m2 : Method := { name := "inflate", desc := "([BI[CII)V", sig := { parameters := [(.array .byte), .int, (.array .char), .int, .int], returnType := none }, accessFlags := 9, code := some k11c2 }
/-- java/lang/StringLatin1 -/
def k11 : Class := { plain "java/lang/StringLatin1" (some 0) with
  accessFlags := 48
  interfaces := #[]
  cf := some (fileOf pool11 14 #[.nestMembers #[390, 221]] #[{ accessFlags := 0, nameIndex := 7, descriptorIndex := 8, attributes := #[] }, { accessFlags := 9, nameIndex := 274, descriptorIndex := 275, attributes := #[] }, { accessFlags := 9, nameIndex := 17, descriptorIndex := 18, attributes := #[] }] 48 4 #[] #[{ accessFlags := 4120, nameIndex := 121, descriptorIndex := 122, attributes := #[] }])
  fields := #[{ name := "$assertionsDisabled", type := .boolean, accessFlags := 4120, slot := 0, constantValue := 0 }]
  methods := #[k11m0, k11m1, k11m2]
  instanceTypes := #[]
  staticTypes := #[.boolean]
  resolved := Array.replicate 395 none
  statics := none }

def pool12 : Array CpInfo := pool [(9, u "<init>"), (6, .class_ 18), (1, u "java/lang/Object"), (0, u "()V"), (1, .class_ 23), (1, u "jdk/internal/util/ArraysSupport"), (0, u "LOG2_ARRAY_LONG_INDEX_SCALE"), (0, u "I"), (2, u "U"), (0, u "Ljdk/internal/misc/Unsafe;"), (8, u "BIG_ENDIAN"), (0, u "Z"), (8, u "LOG2_BYTE_BIT_SIZE"), (4, u "LOG2_ARRAY_INT_INDEX_SCALE"), (54, u "JLA"), (0, u "Ljdk/internal/access/JavaLangAccess;"), (11, u "LOG2_ARRAY_BOOLEAN_INDEX_SCALE"), (9, u "LOG2_ARRAY_BYTE_INDEX_SCALE"), (5, u "LOG2_ARRAY_CHAR_INDEX_SCALE"), (5, u "LOG2_ARRAY_SHORT_INDEX_SCALE"), (18, u "LOG2_ARRAY_FLOAT_INDEX_SCALE"), (24, u "LOG2_ARRAY_DOUBLE_INDEX_SCALE"), (89, u "T_BOOLEAN"), (2, u "T_CHAR"), (1, u "T_FLOAT"), (1, u "T_DOUBLE"), (1, u "T_BYTE"), (1, u "T_SHORT"), (1, u "T_INT"), (1, u "T_LONG"), (1, u "SOFT_MAX_ARRAY_LENGTH")] 83

def k12m0 : Method := { name := "<init>", desc := "()V", sig := { parameters := [], returnType := none }, accessFlags := 2, code := none }
/-- jdk/internal/util/ArraysSupport -/
def k12 : Class := { plain "jdk/internal/util/ArraysSupport" (some 0) with
  accessFlags := 33
  interfaces := #[]
  cf := some (fileOf pool12 21 #[] #[{ accessFlags := 2, nameIndex := 9, descriptorIndex := 19, attributes := #[] }] 33 16 #[] #[{ accessFlags := 24, nameIndex := 28, descriptorIndex := 29, attributes := #[] }, { accessFlags := 26, nameIndex := 38, descriptorIndex := 39, attributes := #[] }, { accessFlags := 25, nameIndex := 121, descriptorIndex := 25, attributes := #[] }, { accessFlags := 25, nameIndex := 131, descriptorIndex := 25, attributes := #[] }, { accessFlags := 25, nameIndex := 137, descriptorIndex := 25, attributes := #[] }, { accessFlags := 25, nameIndex := 143, descriptorIndex := 25, attributes := #[] }, { accessFlags := 25, nameIndex := 53, descriptorIndex := 25, attributes := #[] }, { accessFlags := 25, nameIndex := 24, descriptorIndex := 25, attributes := #[] }, { accessFlags := 25, nameIndex := 162, descriptorIndex := 25, attributes := #[] }, { accessFlags := 25, nameIndex := 187, descriptorIndex := 25, attributes := #[] }, { accessFlags := 26, nameIndex := 48, descriptorIndex := 25, attributes := #[] }, { accessFlags := 25, nameIndex := 277, descriptorIndex := 25, attributes := #[] }, { accessFlags := 25, nameIndex := 280, descriptorIndex := 25, attributes := #[] }, { accessFlags := 25, nameIndex := 282, descriptorIndex := 25, attributes := #[] }, { accessFlags := 25, nameIndex := 284, descriptorIndex := 25, attributes := #[] }, { accessFlags := 25, nameIndex := 286, descriptorIndex := 25, attributes := #[] }, { accessFlags := 25, nameIndex := 288, descriptorIndex := 25, attributes := #[] }, { accessFlags := 25, nameIndex := 290, descriptorIndex := 25, attributes := #[] }, { accessFlags := 25, nameIndex := 292, descriptorIndex := 25, attributes := #[] }, { accessFlags := 26, nameIndex := 108, descriptorIndex := 109, attributes := #[] }, { accessFlags := 25, nameIndex := 294, descriptorIndex := 25, attributes := #[] }])
  fields := #[{ name := "U", type := (.object "jdk/internal/misc/Unsafe"), accessFlags := 24, slot := 0, constantValue := 0 }, { name := "BIG_ENDIAN", type := .boolean, accessFlags := 26, slot := 1, constantValue := 0 }, { name := "LOG2_ARRAY_BOOLEAN_INDEX_SCALE", type := .int, accessFlags := 25, slot := 2, constantValue := 0 }, { name := "LOG2_ARRAY_BYTE_INDEX_SCALE", type := .int, accessFlags := 25, slot := 3, constantValue := 0 }, { name := "LOG2_ARRAY_CHAR_INDEX_SCALE", type := .int, accessFlags := 25, slot := 4, constantValue := 0 }, { name := "LOG2_ARRAY_SHORT_INDEX_SCALE", type := .int, accessFlags := 25, slot := 5, constantValue := 0 }, { name := "LOG2_ARRAY_INT_INDEX_SCALE", type := .int, accessFlags := 25, slot := 6, constantValue := 0 }, { name := "LOG2_ARRAY_LONG_INDEX_SCALE", type := .int, accessFlags := 25, slot := 7, constantValue := 0 }, { name := "LOG2_ARRAY_FLOAT_INDEX_SCALE", type := .int, accessFlags := 25, slot := 8, constantValue := 0 }, { name := "LOG2_ARRAY_DOUBLE_INDEX_SCALE", type := .int, accessFlags := 25, slot := 9, constantValue := 0 }, { name := "LOG2_BYTE_BIT_SIZE", type := .int, accessFlags := 26, slot := 10, constantValue := 0 }, { name := "T_BOOLEAN", type := .int, accessFlags := 25, slot := 11, constantValue := 0 }, { name := "T_CHAR", type := .int, accessFlags := 25, slot := 12, constantValue := 0 }, { name := "T_FLOAT", type := .int, accessFlags := 25, slot := 13, constantValue := 0 }, { name := "T_DOUBLE", type := .int, accessFlags := 25, slot := 14, constantValue := 0 }, { name := "T_BYTE", type := .int, accessFlags := 25, slot := 15, constantValue := 0 }, { name := "T_SHORT", type := .int, accessFlags := 25, slot := 16, constantValue := 0 }, { name := "T_INT", type := .int, accessFlags := 25, slot := 17, constantValue := 0 }, { name := "T_LONG", type := .int, accessFlags := 25, slot := 18, constantValue := 0 }, { name := "JLA", type := (.object "jdk/internal/access/JavaLangAccess"), accessFlags := 26, slot := 19, constantValue := 0 }, { name := "SOFT_MAX_ARRAY_LENGTH", type := .int, accessFlags := 25, slot := 20, constantValue := 0 }]
  methods := #[k12m0]
  instanceTypes := #[]
  staticTypes := #[(.object "jdk/internal/misc/Unsafe"), .boolean, .int, .int, .int, .int, .int, .int, .int, .int, .int, .int, .int, .int, .int, .int, .int, .int, .int, (.object "jdk/internal/access/JavaLangAccess"), .int]
  resolved := Array.replicate 378 none
  statics := none }

def pool13 : Array CpInfo := pool [(1, u "java/lang/Cloneable"), (0, .class_ 1), (0, u "java/lang/Object"), (0, .class_ 3)] 3

/-- java/lang/Cloneable -/
def k13 : Class := { plain "java/lang/Cloneable" (some 0) with
  accessFlags := 1537
  interfaces := #[]
  cf := some (fileOf pool13 2 #[] #[] 1537 4 #[] #[])
  fields := #[]
  methods := #[]
  instanceTypes := #[]
  staticTypes := #[]
  resolved := Array.replicate 8 none
  statics := none }

/-- the primitive byte -/
def k14 : Class := { plain "byte" none with kind := .primitive 'B', accessFlags := 0x411 }
/-- [B -/
def k15 : Class := { plain "[B" (some 0) with kind := .array 14 .byte, interfaces := #[13, 3], accessFlags := 1041 }

/-- the primitive char -/
def k16 : Class := { plain "char" none with kind := .primitive 'C', accessFlags := 0x411 }
/-- [C -/
def k17 : Class := { plain "[C" (some 0) with kind := .array 16 .char, interfaces := #[13, 3], accessFlags := 1041 }

/-- the primitive int -/
def k18 : Class := { plain "int" none with kind := .primitive 'I', accessFlags := 0x411 }
/-- [I -/
def k19 : Class := { plain "[I" (some 0) with kind := .array 18 .int, interfaces := #[13, 3], accessFlags := 1041 }

/-- the primitive long -/
def k20 : Class := { plain "long" none with kind := .primitive 'J', accessFlags := 0x411 }
/-- [J -/
def k21 : Class := { plain "[J" (some 0) with kind := .array 20 .long, interfaces := #[13, 3], accessFlags := 1041 }

def heap : Heap := #[{ cls := 8, slots := #[.long 0, .int 1, .null, .int 0, .null, .int 0, .int 0], vm := .statics 8 },
  { cls := 10, slots := #[.null, .null, .null], vm := .statics 10 }]
def classes : Array Class := #[k0, k1, k2, k3, k4, k5, k6, k7, k8, k9, k10, k11, k12, k13, k14, k15, k16, k17, k18, k19, k20, k21]
def interned : List (Array UInt16 × Addr) := []
def slotsUsed : Nat := 10
def theMethod : MethodId := ⟨1, 1⟩
def args0 : Array Value := #[.long 5, .int 3]
def aboutOver (below : List Frame) : State where
  vm := { classes := classes, interned := interned.toArray }
  heap := heap
  slotsUsed := slotsUsed
  threads := #[{ frames := .invoking theMethod args0 :: below }]
def below0 : List Frame := [.native { method := ⟨0, 0⟩, args := #[] }]
def about1 : State := aboutOver below0
def p0 : Program := .bare "" "" ""
def e0 : Env := launch0.env 0 0 0
theorem w_frames : about1.frames = Frame.invoking theMethod args0 :: below0 := rfl
set_option maxRecDepth 65536 in
theorem w_args : argsFit about1.vm theMethod args0 = true := by decide +kernel
set_option maxRecDepth 65536 in
theorem w_heap : heapFits about1 = true := by decide +kernel
set_option maxRecDepth 65536 in
theorem w_runnable : about1.curStatus? = some .runnable := by decide +kernel
set_option maxRecDepth 65536 in
theorem w_alone : about1.alone = true := by decide +kernel
set_option maxRecDepth 65536 in
theorem w_named : about1.methodNamed? x = some theMethod := by decide +kernel
set_option maxRecDepth 65536 in
theorem w_hears : about1.hears theMethod below0 = true := by decide +kernel
set_option maxRecDepth 65536 in
theorem w_ripe : about1.ripe theMethod args0 below0 = true := by decide +kernel
theorem w_running : about1.status = .running := rfl
set_option maxRecDepth 65536 in
theorem w_room : about1.hasRoom e0.platform room_1 = true :=
  launch0.hasRoom_least _ room_1 (by decide +kernel) (by decide +kernel) (by decide +kernel) (by decide +kernel) (by decide +kernel) (by decide +kernel)
theorem allAtoms_all (ts : List Jvm.Cond) (a : Array Jvm.Value) (st : Jvm.State) : (allAtoms ts).before a st = ts.all (fun c => c.before a st) := by
  induction ts with
  | nil => rfl
  | cons c t ih =>
    show (Jvm.Cond.and c (allAtoms t)).before a st = _
    rw [Jvm.Cond.before_and, ih, List.all_cons]
def words1 : List Jvm.Cond := Jvm.Cond.code x code maxLocals ret :: tables_1
/-- a 'code' word, met by the world's own term for the bytes: nothing is compared byte by byte -/
theorem code_word {y : MethodName} {bytes : ByteArray} {mx : Nat} {rt : Option FieldType} {a : Array Value} {s : State} {m : MethodId} {meth : Method} {c : Code} (h1 : s.methodNamed? y = some m) (h2 : s.vm.method? m = some meth) (h3 : meth.code = some c) (h4 : c.code = bytes)
    (h5 : (c.maxLocals == mx && c.exceptionTable.isEmpty && decide (c.maxStack ≤ mostOperands) && decide (meth.sig.returnType = rt) && !meth.locks && decide (parseMethodDescriptor y.desc = some meth.sig)) = true) : (Jvm.Cond.code y bytes mx rt).before a s = true := by
  simp only [Bool.and_eq_true, beq_iff_eq, Bool.not_eq_true', decide_eq_true_eq] at h5
  obtain ⟨⟨⟨⟨⟨g1, g2⟩, g3⟩, g4⟩, g5⟩, g6⟩ := h5
  simp [Cond.before, Cond.holds, Cond.value, h1, h2, h3, h4, g1, g2, g3, g4, g5, g6]
def isCode : Jvm.Cond → Bool
  | .code _ _ _ _ => true
  | _ => false
theorem all_split {L : List Jvm.Cond} {P : Jvm.Cond → Bool} (h1 : L.all (fun c => isCode c || P c) = true) (h2 : ∀ c ∈ L.filter isCode, P c = true) : L.all P = true := by
  refine List.all_eq_true.mpr fun c hc => ?_
  have h := List.all_eq_true.mp h1 c hc
  rcases Bool.eq_false_or_eq_true (isCode c) with hi | hi
  · exact h2 c (List.mem_filter.mpr ⟨hc, hi⟩)
  · simpa [hi] using h
set_option maxRecDepth 65536 in
theorem w_c0 : (Jvm.Cond.code x code maxLocals ret).before args0 about1 = true := code_word (m := ⟨1, 1⟩) (meth := k1m1) (c := k1c1) (by decide +kernel) rfl rfl rfl (by decide +kernel)
set_option maxRecDepth 65536 in
theorem w_c1 : (Jvm.Cond.code ({ cls := "com/example/allotrope/allotrope/workload/FieldsWholePinLaw", name := "ch", desc := "(JII[J)C" } : Jvm.MethodName) method_4_code (5 : Nat) (Option.some Jvm.ClassFile.FieldType.char)).before args0 about1 = true := code_word (m := ⟨1, 3⟩) (meth := k1m3) (c := k1c3) (by decide +kernel) rfl rfl rfl (by decide +kernel)
set_option maxRecDepth 65536 in
theorem w_c2 : (Jvm.Cond.code ({ cls := "com/example/allotrope/allotrope/workload/FieldsWholePinLaw", name := "digit", desc := "(JI[J)C" } : Jvm.MethodName) method_3_code (4 : Nat) (Option.some Jvm.ClassFile.FieldType.char)).before args0 about1 = true := code_word (m := ⟨1, 2⟩) (meth := k1m2) (c := k1c2) (by decide +kernel) rfl rfl rfl (by decide +kernel)
set_option maxRecDepth 65536 in
theorem w_c3 : (Jvm.Cond.code ({ cls := "com/example/allotrope/allotrope/workload/Fields", name := "<init>", desc := "()V" } : Jvm.MethodName) prog_224_method_1_code (1 : Nat) (Option.none : Option Jvm.ClassFile.FieldType)).before args0 about1 = true := code_word (m := ⟨2, 0⟩) (meth := k2m0) (c := k2c0) (by decide +kernel) rfl rfl rfl (by decide +kernel)
set_option maxRecDepth 65536 in
theorem w_c4 : (Jvm.Cond.code ({ cls := "java/lang/Object", name := "<init>", desc := "()V" } : Jvm.MethodName) object_method_1_code (1 : Nat) (Option.none : Option Jvm.ClassFile.FieldType)).before args0 about1 = true := code_word (m := ⟨0, 0⟩) (meth := k0m0) (c := k0c0) (by decide +kernel) rfl rfl rfl (by decide +kernel)
set_option maxRecDepth 65536 in
theorem w_c5 : (Jvm.Cond.code ({ cls := "java/lang/String", name := "<init>", desc := "([C)V" } : Jvm.MethodName) jdk_42_method_3_code (2 : Nat) (Option.none : Option Jvm.ClassFile.FieldType)).before args0 about1 = true := code_word (m := ⟨8, 1⟩) (meth := k8m1) (c := k8c1) (by decide +kernel) rfl rfl rfl (by decide +kernel)
set_option maxRecDepth 65536 in
theorem w_c6 : (Jvm.Cond.code ({ cls := "java/lang/String", name := "<init>", desc := "([CIILjava/lang/Void;)V" } : Jvm.MethodName) jdk_42_method_149_code (6 : Nat) (Option.none : Option Jvm.ClassFile.FieldType)).before args0 about1 = true := code_word (m := ⟨8, 4⟩) (meth := k8m4) (c := k8c4) (by decide +kernel) rfl rfl rfl (by decide +kernel)
set_option maxRecDepth 65536 in
theorem w_c7 : (Jvm.Cond.code ({ cls := "java/lang/StringUTF16", name := "compress", desc := "([CII)[B" } : Jvm.MethodName) jdk_52_method_16_code (6 : Nat) (Option.some (Jvm.ClassFile.FieldType.array Jvm.ClassFile.FieldType.byte))).before args0 about1 = true := code_word (m := ⟨9, 2⟩) (meth := k9m2) (c := k9c2) (by decide +kernel) rfl rfl rfl (by decide +kernel)
set_option maxRecDepth 65536 in
theorem w_c8 : (Jvm.Cond.code ({ cls := "java/lang/StringUTF16", name := "compress", desc := "([CI[BII)I" } : Jvm.MethodName) jdk_52_method_21_code (7 : Nat) (Option.some Jvm.ClassFile.FieldType.int)).before args0 about1 = true := code_word (m := ⟨9, 3⟩) (meth := k9m3) (c := k9c3) (by decide +kernel) rfl rfl rfl (by decide +kernel)
set_option maxRecDepth 65536 in
theorem w_c9 : (Jvm.Cond.code ({ cls := "java/lang/StringUTF16", name := "coderFromArrayLen", desc := "([BI)B" } : Jvm.MethodName) jdk_52_method_15_code (2 : Nat) (Option.some Jvm.ClassFile.FieldType.byte)).before args0 about1 = true := code_word (m := ⟨9, 1⟩) (meth := k9m1) (c := k9c1) (by decide +kernel) rfl rfl rfl (by decide +kernel)
set_option maxRecDepth 65536 in
theorem w_c10 : (Jvm.Cond.code ({ cls := "com/example/allotrope/allotrope/workload/Fields", name := "splitAt", desc := "(Ljava/lang/String;C)V" } : Jvm.MethodName) prog_224_method_2_code (5 : Nat) (Option.none : Option Jvm.ClassFile.FieldType)).before args0 about1 = true := code_word (m := ⟨2, 1⟩) (meth := k2m1) (c := k2c1) (by decide +kernel) rfl rfl rfl (by decide +kernel)
set_option maxRecDepth 65536 in
theorem w_c11 : (Jvm.Cond.code ({ cls := "com/example/allotrope/allotrope/workload/Fields", name := "take", desc := "(Ljava/lang/String;)V" } : Jvm.MethodName) prog_224_method_4_code (2 : Nat) (Option.none : Option Jvm.ClassFile.FieldType)).before args0 about1 = true := code_word (m := ⟨2, 2⟩) (meth := k2m2) (c := k2c2) (by decide +kernel) rfl rfl rfl (by decide +kernel)
set_option maxRecDepth 65536 in
theorem w_c12 : (Jvm.Cond.code ({ cls := "java/lang/String", name := "length", desc := "()I" } : Jvm.MethodName) jdk_42_method_54_code (1 : Nat) (Option.some Jvm.ClassFile.FieldType.int)).before args0 about1 = true := code_word (m := ⟨8, 2⟩) (meth := k8m2) (c := k8c2) (by decide +kernel) rfl rfl rfl (by decide +kernel)
set_option maxRecDepth 65536 in
theorem w_c13 : (Jvm.Cond.code ({ cls := "java/lang/String", name := "coder", desc := "()B" } : Jvm.MethodName) jdk_42_method_152_code (1 : Nat) (Option.some Jvm.ClassFile.FieldType.byte)).before args0 about1 = true := code_word (m := ⟨8, 5⟩) (meth := k8m5) (c := k8c5) (by decide +kernel) rfl rfl rfl (by decide +kernel)
set_option maxRecDepth 65536 in
theorem w_c14 : (Jvm.Cond.code ({ cls := "java/lang/String", name := "getChars", desc := "(II[CI)V" } : Jvm.MethodName) jdk_42_method_61_code (5 : Nat) (Option.none : Option Jvm.ClassFile.FieldType)).before args0 about1 = true := code_word (m := ⟨8, 3⟩) (meth := k8m3) (c := k8c3) (by decide +kernel) rfl rfl rfl (by decide +kernel)
set_option maxRecDepth 65536 in
theorem w_c15 : (Jvm.Cond.code ({ cls := "java/lang/String", name := "checkBoundsBeginEnd", desc := "(III)V" } : Jvm.MethodName) jdk_42_method_158_code (3 : Nat) (Option.none : Option Jvm.ClassFile.FieldType)).before args0 about1 = true := code_word (m := ⟨8, 8⟩) (meth := k8m8) (c := k8c8) (by decide +kernel) rfl rfl rfl (by decide +kernel)
set_option maxRecDepth 65536 in
theorem w_c16 : (Jvm.Cond.code ({ cls := "jdk/internal/util/Preconditions", name := "checkFromToIndex", desc := "(IIILjava/util/function/BiFunction;)I" } : Jvm.MethodName) jdk_41_method_12_code (4 : Nat) (Option.some Jvm.ClassFile.FieldType.int)).before args0 about1 = true := code_word (m := ⟨10, 1⟩) (meth := k10m1) (c := k10c1) (by decide +kernel) rfl rfl rfl (by decide +kernel)
set_option maxRecDepth 65536 in
theorem w_c17 : (Jvm.Cond.code ({ cls := "java/lang/String", name := "checkBoundsOffCount", desc := "(III)I" } : Jvm.MethodName) jdk_42_method_157_code (3 : Nat) (Option.some Jvm.ClassFile.FieldType.int)).before args0 about1 = true := code_word (m := ⟨8, 7⟩) (meth := k8m7) (c := k8c7) (by decide +kernel) rfl rfl rfl (by decide +kernel)
set_option maxRecDepth 65536 in
theorem w_c18 : (Jvm.Cond.code ({ cls := "jdk/internal/util/Preconditions", name := "checkFromIndexSize", desc := "(IIILjava/util/function/BiFunction;)I" } : Jvm.MethodName) jdk_41_method_13_code (4 : Nat) (Option.some Jvm.ClassFile.FieldType.int)).before args0 about1 = true := code_word (m := ⟨10, 2⟩) (meth := k10m2) (c := k10c2) (by decide +kernel) rfl rfl rfl (by decide +kernel)
set_option maxRecDepth 65536 in
theorem w_c19 : (Jvm.Cond.code ({ cls := "java/lang/String", name := "isLatin1", desc := "()Z" } : Jvm.MethodName) jdk_42_method_154_code (1 : Nat) (Option.some Jvm.ClassFile.FieldType.boolean)).before args0 about1 = true := code_word (m := ⟨8, 6⟩) (meth := k8m6) (c := k8c6) (by decide +kernel) rfl rfl rfl (by decide +kernel)
set_option maxRecDepth 65536 in
theorem w_c20 : (Jvm.Cond.code ({ cls := "java/lang/StringLatin1", name := "getChars", desc := "([BII[CI)V" } : Jvm.MethodName) jdk_43_method_11_code (5 : Nat) (Option.none : Option Jvm.ClassFile.FieldType)).before args0 about1 = true := code_word (m := ⟨11, 1⟩) (meth := k11m1) (c := k11c1) (by decide +kernel) rfl rfl rfl (by decide +kernel)
set_option maxRecDepth 65536 in
theorem w_c21 : (Jvm.Cond.code ({ cls := "java/lang/StringLatin1", name := "inflate", desc := "([BI[CII)V" } : Jvm.MethodName) jdk_43_method_49_code (6 : Nat) (Option.none : Option Jvm.ClassFile.FieldType)).before args0 about1 = true := code_word (m := ⟨11, 2⟩) (meth := k11m2) (c := k11c2) (by decide +kernel) rfl rfl rfl (by decide +kernel)
set_option maxRecDepth 65536 in
theorem w_c22 : (Jvm.Cond.code ({ cls := "com/example/allotrope/allotrope/workload/Fields", name := "add", desc := "(II)V" } : Jvm.MethodName) prog_224_method_7_code (3 : Nat) (Option.none : Option Jvm.ClassFile.FieldType)).before args0 about1 = true := code_word (m := ⟨2, 3⟩) (meth := k2m3) (c := k2c3) (by decide +kernel) rfl rfl rfl (by decide +kernel)
set_option maxRecDepth 65536 in
theorem w_c23 : (Jvm.Cond.code ({ cls := "com/example/allotrope/allotrope/workload/Fields", name := "count", desc := "()I" } : Jvm.MethodName) prog_224_method_8_code (1 : Nat) (Option.some Jvm.ClassFile.FieldType.int)).before args0 about1 = true := code_word (m := ⟨2, 4⟩) (meth := k2m4) (c := k2c4) (by decide +kernel) rfl rfl rfl (by decide +kernel)
set_option maxRecDepth 65536 in
theorem w_c24 : (Jvm.Cond.code ({ cls := "com/example/allotrope/allotrope/workload/Fields", name := "whole", desc := "(I)J" } : Jvm.MethodName) prog_224_method_18_code (5 : Nat) (Option.some Jvm.ClassFile.FieldType.long)).before args0 about1 = true := code_word (m := ⟨2, 5⟩) (meth := k2m5) (c := k2c5) (by decide +kernel) rfl rfl rfl (by decide +kernel)
def codes1 : List Jvm.Cond := [Jvm.Cond.code x code maxLocals ret, Jvm.Cond.code ({ cls := "com/example/allotrope/allotrope/workload/FieldsWholePinLaw", name := "ch", desc := "(JII[J)C" } : Jvm.MethodName) method_4_code (5 : Nat) (Option.some Jvm.ClassFile.FieldType.char), Jvm.Cond.code ({ cls := "com/example/allotrope/allotrope/workload/FieldsWholePinLaw", name := "digit", desc := "(JI[J)C" } : Jvm.MethodName) method_3_code (4 : Nat) (Option.some Jvm.ClassFile.FieldType.char), Jvm.Cond.code ({ cls := "com/example/allotrope/allotrope/workload/Fields", name := "<init>", desc := "()V" } : Jvm.MethodName) prog_224_method_1_code (1 : Nat) (Option.none : Option Jvm.ClassFile.FieldType), Jvm.Cond.code ({ cls := "java/lang/Object", name := "<init>", desc := "()V" } : Jvm.MethodName) object_method_1_code (1 : Nat) (Option.none : Option Jvm.ClassFile.FieldType), Jvm.Cond.code ({ cls := "java/lang/String", name := "<init>", desc := "([C)V" } : Jvm.MethodName) jdk_42_method_3_code (2 : Nat) (Option.none : Option Jvm.ClassFile.FieldType), Jvm.Cond.code ({ cls := "java/lang/String", name := "<init>", desc := "([CIILjava/lang/Void;)V" } : Jvm.MethodName) jdk_42_method_149_code (6 : Nat) (Option.none : Option Jvm.ClassFile.FieldType), Jvm.Cond.code ({ cls := "java/lang/StringUTF16", name := "compress", desc := "([CII)[B" } : Jvm.MethodName) jdk_52_method_16_code (6 : Nat) (Option.some (Jvm.ClassFile.FieldType.array Jvm.ClassFile.FieldType.byte)), Jvm.Cond.code ({ cls := "java/lang/StringUTF16", name := "compress", desc := "([CI[BII)I" } : Jvm.MethodName) jdk_52_method_21_code (7 : Nat) (Option.some Jvm.ClassFile.FieldType.int), Jvm.Cond.code ({ cls := "java/lang/StringUTF16", name := "coderFromArrayLen", desc := "([BI)B" } : Jvm.MethodName) jdk_52_method_15_code (2 : Nat) (Option.some Jvm.ClassFile.FieldType.byte), Jvm.Cond.code ({ cls := "com/example/allotrope/allotrope/workload/Fields", name := "splitAt", desc := "(Ljava/lang/String;C)V" } : Jvm.MethodName) prog_224_method_2_code (5 : Nat) (Option.none : Option Jvm.ClassFile.FieldType), Jvm.Cond.code ({ cls := "com/example/allotrope/allotrope/workload/Fields", name := "take", desc := "(Ljava/lang/String;)V" } : Jvm.MethodName) prog_224_method_4_code (2 : Nat) (Option.none : Option Jvm.ClassFile.FieldType), Jvm.Cond.code ({ cls := "java/lang/String", name := "length", desc := "()I" } : Jvm.MethodName) jdk_42_method_54_code (1 : Nat) (Option.some Jvm.ClassFile.FieldType.int), Jvm.Cond.code ({ cls := "java/lang/String", name := "coder", desc := "()B" } : Jvm.MethodName) jdk_42_method_152_code (1 : Nat) (Option.some Jvm.ClassFile.FieldType.byte), Jvm.Cond.code ({ cls := "java/lang/String", name := "getChars", desc := "(II[CI)V" } : Jvm.MethodName) jdk_42_method_61_code (5 : Nat) (Option.none : Option Jvm.ClassFile.FieldType), Jvm.Cond.code ({ cls := "java/lang/String", name := "checkBoundsBeginEnd", desc := "(III)V" } : Jvm.MethodName) jdk_42_method_158_code (3 : Nat) (Option.none : Option Jvm.ClassFile.FieldType), Jvm.Cond.code ({ cls := "jdk/internal/util/Preconditions", name := "checkFromToIndex", desc := "(IIILjava/util/function/BiFunction;)I" } : Jvm.MethodName) jdk_41_method_12_code (4 : Nat) (Option.some Jvm.ClassFile.FieldType.int), Jvm.Cond.code ({ cls := "java/lang/String", name := "checkBoundsOffCount", desc := "(III)I" } : Jvm.MethodName) jdk_42_method_157_code (3 : Nat) (Option.some Jvm.ClassFile.FieldType.int), Jvm.Cond.code ({ cls := "jdk/internal/util/Preconditions", name := "checkFromIndexSize", desc := "(IIILjava/util/function/BiFunction;)I" } : Jvm.MethodName) jdk_41_method_13_code (4 : Nat) (Option.some Jvm.ClassFile.FieldType.int), Jvm.Cond.code ({ cls := "java/lang/String", name := "isLatin1", desc := "()Z" } : Jvm.MethodName) jdk_42_method_154_code (1 : Nat) (Option.some Jvm.ClassFile.FieldType.boolean), Jvm.Cond.code ({ cls := "java/lang/StringLatin1", name := "getChars", desc := "([BII[CI)V" } : Jvm.MethodName) jdk_43_method_11_code (5 : Nat) (Option.none : Option Jvm.ClassFile.FieldType), Jvm.Cond.code ({ cls := "java/lang/StringLatin1", name := "inflate", desc := "([BI[CII)V" } : Jvm.MethodName) jdk_43_method_49_code (6 : Nat) (Option.none : Option Jvm.ClassFile.FieldType), Jvm.Cond.code ({ cls := "com/example/allotrope/allotrope/workload/Fields", name := "add", desc := "(II)V" } : Jvm.MethodName) prog_224_method_7_code (3 : Nat) (Option.none : Option Jvm.ClassFile.FieldType), Jvm.Cond.code ({ cls := "com/example/allotrope/allotrope/workload/Fields", name := "count", desc := "()I" } : Jvm.MethodName) prog_224_method_8_code (1 : Nat) (Option.some Jvm.ClassFile.FieldType.int), Jvm.Cond.code ({ cls := "com/example/allotrope/allotrope/workload/Fields", name := "whole", desc := "(I)J" } : Jvm.MethodName) prog_224_method_18_code (5 : Nat) (Option.some Jvm.ClassFile.FieldType.long)]
set_option maxRecDepth 65536 in
theorem codes_eq : words1.filter isCode = codes1 := rfl
theorem w_codes : ∀ c ∈ words1.filter isCode, c.before args0 about1 = true := by
  rw [codes_eq]
  intro c hc
  simp only [codes1, List.mem_cons, List.not_mem_nil, or_false] at hc
  rcases hc with rfl | rfl | rfl | rfl | rfl | rfl | rfl | rfl | rfl | rfl | rfl | rfl | rfl | rfl | rfl | rfl | rfl | rfl | rfl | rfl | rfl | rfl | rfl | rfl | rfl
  · exact w_c0
  · exact w_c1
  · exact w_c2
  · exact w_c3
  · exact w_c4
  · exact w_c5
  · exact w_c6
  · exact w_c7
  · exact w_c8
  · exact w_c9
  · exact w_c10
  · exact w_c11
  · exact w_c12
  · exact w_c13
  · exact w_c14
  · exact w_c15
  · exact w_c16
  · exact w_c17
  · exact w_c18
  · exact w_c19
  · exact w_c20
  · exact w_c21
  · exact w_c22
  · exact w_c23
  · exact w_c24
set_option maxRecDepth 65536 in
theorem w_t1 : (words1.take 24).all (fun c => isCode c || c.before args0 about1) = true := by decide +kernel
set_option maxRecDepth 65536 in
theorem w_t2 : ((words1.drop 24).take 24).all (fun c => isCode c || c.before args0 about1) = true := by decide +kernel
set_option maxRecDepth 65536 in
theorem w_t3 : (((words1.drop 24).drop 24).take 24).all (fun c => isCode c || c.before args0 about1) = true := by decide +kernel
set_option maxRecDepth 65536 in
theorem w_t4 : ((((words1.drop 24).drop 24).drop 24).take 24).all (fun c => isCode c || c.before args0 about1) = true := by decide +kernel
set_option maxRecDepth 65536 in
theorem w_t5 : (((((words1.drop 24).drop 24).drop 24).drop 24).take 24).all (fun c => isCode c || c.before args0 about1) = true := by decide +kernel
set_option maxRecDepth 65536 in
theorem w_t6 : (((((words1.drop 24).drop 24).drop 24).drop 24).drop 24).all (fun c => isCode c || c.before args0 about1) = true := by decide +kernel
theorem w_tables : (allAtoms (Jvm.Cond.code x code maxLocals ret :: tables_1)).before args0 about1 = true := by
  rw [allAtoms_all]
  show words1.all (fun c => c.before args0 about1) = true
  refine all_split ?_ w_codes
  rw [← List.take_append_drop 24 words1, List.all_append, w_t1, ← List.take_append_drop 24 (words1.drop 24), List.all_append, w_t2, ← List.take_append_drop 24 ((words1.drop 24).drop 24), List.all_append, w_t3, ← List.take_append_drop 24 (((words1.drop 24).drop 24).drop 24), List.all_append, w_t4, ← List.take_append_drop 24 ((((words1.drop 24).drop 24).drop 24).drop 24), List.all_append, w_t5, w_t6]
  rfl
set_option maxRecDepth 65536 in
theorem w_rest : rest_1_c.before args0 about1 = true := by decide +kernel
set_option maxRecDepth 65536 in
theorem w_case : (Jvm.Cond.and given_1 narrow_1).before args0 about1 = true := by decide +kernel
theorem w_applies : (headSpec (Jvm.Cond.code x code maxLocals ret :: tables_1) room_1).applies x e0.platform about1 = true :=
  (Spec.applies_iff w_frames).mpr ⟨w_running, w_runnable, w_alone, w_named, w_hears, w_ripe, w_room, w_tables⟩
theorem atStart : AtStart classFile x code maxLocals ret World_1 tables_1 room_1 Calls_1 rest_1 Pre_1 launch0 p0 e0 about1 theMethod args0 below0 :=
  ⟨lists_1, trivial, launch0.admits_env _ _ _, launch0.least_env, fairChoices_fair.cas, fairChoices_fair.clock, w_frames, w_args, w_heap, w_applies, trivial, w_rest, w_case⟩
end start1
theorem witness_1 : WitnessClaimed_1 := ⟨start1.p0, start1.e0, start1.about1, start1.theMethod, start1.args0, start1.below0, start1.atStart⟩
end Jvm.Pilot.@@N@@
