/-
  FnNamespaceVarEmittedOncePerSymbol, the plain part: what holds of the symbols and of the map ahead of each call. Conditions: as listed.
-/
import Derived.Test.YtnikgjgjmpoglaaGreatFmtR
namespace Go.Proofs.YtnikgjgjmpoglaaGreatFmt
open Go Go.RowKit
set_option maxRecDepth 100000

theorem Held.has_put (h : Held) (j k : Fin 2) : (h.put j).has k = (h.has k || j == k) := by
  cases h with
  | nil => simp [Held.put, Held.has]
  | only i => revert i j k; decide
  | both i => simp [Held.put, Held.has]

theorem Held.has_if (e : Bool) (h : Held) (j k : Fin 2) : (if e then h.put j else h).has k = (h.has k || (e && j == k)) := by
  cases e
  · simp
  · simp [Held.has_put]

def symA (linked : Bool) (u : Int) : Sym := if linked then (⟨4294967295, 4294967295, u, 20, ⟨#[97]⟩⟩ : Sym).linked 1 else ⟨4294967295, 4294967295, u, 20, ⟨#[97]⟩⟩
def symB (bn : Bool) (u : Int) : Sym := ⟨4294967295, 4294967295, u, if bn then 20 else 27, ⟨#[98]⟩⟩
def rows5 (linked bn : Bool) (uA uB : Int) : List Sym := [symA linked uA, symB bn uB, Sym.fresh 1 ⟨#[95, 97]⟩]

structure Loop5 (linked bn : Bool) (t : Nat) (h : Held) (rows : List Sym) (l : Nat) : Prop where
  rw : rows = rows5 linked bn (if linked then 0 else ((2 * ((t + 1) / 2) : Nat) : Int)) (if linked then ((2 * t : Nat) : Int) else ((2 * (t / 2) : Nat) : Int))
  h0 : h.has 0 = (!linked && decide (1 ≤ t))
  h1 : h.has 1 = (bn && decide ((if linked then 1 else 2) ≤ t))
  le : l = (if h.has 0 then 1 else 0) + (if h.has 1 then 1 else 0)

theorem Loop5.start (linked bn : Bool) : Loop5 linked bn 0 .nil (rows5 linked bn 0 0) 0 := by
  refine ⟨by cases linked <;> rfl, by cases linked <;> rfl, by cases linked <;> cases bn <;> rfl, rfl⟩

theorem Loop5.le2 {linked bn : Bool} {t : Nat} {h : Held} {rows : List Sym} {l : Nat} (L : Loop5 linked bn t h rows l) : l ≤ 2 := by
  rw [L.le]; split <;> split <;> omega

theorem Loop5.final {linked bn : Bool} {t : Nat} {h : Held} {rows : List Sym} {l : Nat} (L : Loop5 linked bn t h rows l) :
    l = (if linked then (if 1 ≤ t ∧ bn = true then 1 else 0) else (if 1 ≤ t then 1 else 0) + (if 2 ≤ t ∧ bn = true then 1 else 0)) := by
  rw [L.le, L.h0, L.h1]
  cases linked <;> cases bn <;> simp

def Next5 (linked bn : Bool) (t : Nat) (h : Held) (rows : List Sym) (l : Nat) : Prop :=
  ∃ (jf : Fin 2) (si sj : Sym) (emit : Bool), (jf : Nat) = (if linked then 1 else t % 2) ∧ rows[t % 2]? = some si ∧ rows[(jf : Nat)]? = some sj ∧ (sj.l0 = 4294967295 ∧ sj.l1 = 4294967295) ∧ (t % 2 = jf ∨ (si.l0 = 0 ∧ si.l1 = (jf : Nat))) ∧ 0 ≤ sj.uc ∧ sj.uc ≤ 90000 ∧
    ((sj.kind == 20 || sj.kind == 19) && !h.has jf) = emit ∧ Loop5 linked bn (t + 1) (if emit then h.put jf else h) (rows.set jf (sj.used 2)) (l + if emit then 1 else 0)

theorem Loop5.next {linked bn : Bool} {t : Nat} {h : Held} {rows : List Sym} {l : Nat} (L : Loop5 linked bn t h rows l) (ht : t ≤ 4096) : Next5 linked bn t h rows l := by
  obtain ⟨rfl, h0, h1, rfl⟩ := L
  have hp : t % 2 = 0 ∨ t % 2 = 1 := by omega
  cases linked
  · rcases hp with hp | hp
    · refine ⟨0, _, _, _, hp.symm ▸ rfl, by rw [hp]; rfl, rfl, ⟨rfl, rfl⟩, .inl hp, by simp [symA]; omega, by simp [symA]; omega, rfl, ?_⟩
      have e1 : decide (1 ≤ t) = decide (2 ≤ t) := decide_eq_decide.2 (by omega)
      refine ⟨?_, ?_, ?_, ?_⟩
      · simp only [rows5, symA, symB, Sym.used, List.set]
        simp
        omega
      · rw [Held.has_if, h0]; simp [symA]
      · rw [Held.has_if, h1]; simp [e1]
      · rw [Held.has_if, Held.has_if, h0, h1]; simp [symA]; cases bn <;> simp <;> split <;> simp_all <;> omega
    · have ht1 : 1 ≤ t := by omega
      refine ⟨1, _, _, _, hp.symm ▸ rfl, by rw [hp]; rfl, rfl, ⟨rfl, rfl⟩, .inl hp, by simp [symB]; omega, by simp [symB]; omega, rfl, ?_⟩
      refine ⟨?_, ?_, ?_, ?_⟩
      · simp only [rows5, symA, symB, Sym.used, List.set]
        simp
        omega
      · rw [Held.has_if, h0]; simp [ht1]
      · rw [Held.has_if, h1]; cases bn <;> simp [symB, ht1]
      · rw [Held.has_if, Held.has_if, h0, h1]; cases bn <;> simp [symB, ht1] <;> split <;> simp_all <;> omega
  · refine ⟨1, (rows5 true bn 0 ((2 * t : Nat) : Int))[t % 2]'(by simp [rows5]; omega), _, _, rfl, by rw [List.getElem?_eq_getElem]; rfl, rfl, ⟨rfl, rfl⟩, ?_, by simp [symB]; omega, by simp [symB]; omega, rfl, ?_⟩
    · rcases hp with hp | hp
      · right
        simp only [hp]
        exact ⟨rfl, rfl⟩
      · left; exact hp
    · refine ⟨?_, ?_, ?_, ?_⟩
      · simp only [rows5, symA, symB, Sym.used, List.set]
        simp
        omega
      · rw [Held.has_if, h0]; simp
      · rw [Held.has_if, h1]; cases bn <;> simp [symB]
      · rw [Held.has_if, Held.has_if, h0, h1]; cases bn <;> simp [symB] <;> split <;> simp_all <;> omega
end Go.Proofs.YtnikgjgjmpoglaaGreatFmt
